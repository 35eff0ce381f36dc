import Derived.Test.Qxb6604722aNx
import Derived.Test.Qxb6604722aRead
namespace Go.Proofs.Qxb6604722a
open Go.ChangeShapes Go.WideShapes Go.ChangeAt Go.RowKit
open Pl Lx
set_option linter.unusedSimpArgs false
set_option linter.unusedVariables false

set_option maxRecDepth 20000 in
set_option maxHeartbeats 4000000 in
theorem next_any (L o : Nat) (src : ByteArray) (pos : Nat) (mk : Bool) (md : Int) (w : World) (hp : pos ≤ src.size) (hs : src.size ≤ 1048576) (hm0 : 0 ≤ md) (hm1 : md ≤ 1048576) (hL : LexAt w L o src pos mk md) :
    Calls Try.prog 23 #[.pointer (some ⟨L, o, none⟩)] w fun e w' => e = .returned (nx src mk md pos).1 ∧ LM w w' L o (nx src mk md pos).2.1 (nx src mk md pos).2.2 := by
  have HL : Hid (LexAt w L o src pos mk md) := hL
  have hlt := hL.lt
  have HW : Hid (LS w (w.alloc (.cells #[.int .i64 0, .int .i64 0, .string ⟨#[]⟩, .string ⟨#[]⟩, .int .i64 0] 50)) L o pos) := LS.start hL
  have hsk := sk_bounds (s := src) src.size pos hp
  have HN : Hid (nx src mk md pos = if (sk src src.size pos).1 = true then
    (withPos (rd src mk md (sk src src.size pos).2.2).1 (sk src src.size pos).2.2, (rd src mk md (sk src src.size pos).2.2).2)
    else (skTok (sk src src.size pos), (sk src src.size pos).2.2, md)) := rfl
  clear hL
  go_enter Try.func23, Try.ntmps23
  go_upto_region 1 with fail
  generalize (w.alloc (.cells #[.int .i64 0, .int .i64 0, .string ⟨#[]⟩, .string ⟨#[]⟩, .int .i64 0] 50)) = w1 at HW ⊢
  go_wp2_with fail
  refine (skipBlanks_any L o src pos mk md _ hp hs (LS.lex HL.out HW.out)).mono ?_
  rintro e w2 ⟨rfl, hb2⟩
  have HW2 : Hid (LS w w2 L o (sk src src.size pos).2.2) := LS.call HW.out hb2
  clear hb2 HW
  generalize sk src src.size pos = r at hsk HN HW2 ⊢
  obtain ⟨ok, a, i⟩ := r
  have hsk : i ≤ src.size := hsk
  have HW2 : Hid (LS w w2 L o i) := HW2
  have hz2 := LS.size HW2.out
  have hlt2 : w.heap.size < w2.heap.size := by omega
  cases ok with
  | false =>
    have HN2 : Hid (nx src mk md pos = (tkV 11 a ⟨#[47, 42]⟩ openMsg 0, i, md)) := HN
    rw [show skTok (false, a, i) = tkV 11 a ⟨#[47, 42]⟩ openMsg 0 from rfl]
    clear HN
    obtain ⟨t0, t1, t2, t3, t4, tf⟩ := LS.tok HW2.out hlt
    unfold tkV
    go_wp2
    refine bodyPost_ret (v := tkV 11 a ⟨#[47, 42]⟩ openMsg 0) (by simp [results, Try.results23, go_sem, tkV, t0, t1, t2, t3, t4, hlt2, size_setCell]) rfl ⟨by rw [HN2.out], ?_⟩
    rw [HN2.out]
    exact LM.of HL.out (Below.alloc (LS.done HW2.out hlt _ _ _ _ _) (by simp only [size_setCell]; omega) _)
  | true =>
    have HN2 : Hid (nx src mk md pos = (withPos (rd src mk md i).1 i, (rd src mk md i).2)) := HN
    rw [show skTok (true, a, i) = tkV 0 0 ⟨#[]⟩ ⟨#[]⟩ 0 from rfl]
    clear HN
    unfold tkV
    have HW3 : Hid (LS w (w2.alloc (.cells #[.int .i64 0, .int .i64 0, .string ⟨#[]⟩, .string ⟨#[]⟩, .int .i64 0] 50)) L o i) := LS.quiet HW2.out ((Below.refl _ _).alloc (Nat.le_refl _) _)
    go_upto_region 2 with fail
    generalize (w2.alloc (.cells #[.int .i64 0, .int .i64 0, .string ⟨#[]⟩, .string ⟨#[]⟩, .int .i64 0] 50)) = w3 at HW3 ⊢
    obtain ⟨c0, c1, f1⟩ := LS.cells HL.out HW3.out
    go_wp2_with fail
    refine (read_any L o src i mk md _ hsk hs hm0 hm1 (LS.lex HL.out HW3.out)).mono ?_
    rintro e w4 ⟨rfl, hb4⟩
    have HT : Hid (LT w w4 L o (rd src mk md i).2.1 (rd src mk md i).2.2) := LT.of HW3.out hb4
    clear hb4 HW3 HW2 c0 c1 f1
    obtain ⟨k, tx, vl, n, hf⟩ := rd_form src mk md i
    rw [hf, withPos_tk] at HN2
    rw [hf]
    clear hf
    unfold tkV
    have hz4 := LT.size HT.out
    have hlt4 : w.heap.size < w4.heap.size := by omega
    obtain ⟨t0, t1, t2, t3, t4, tf⟩ := LT.tok HT.out hlt
    go_wp2
    refine bodyPost_ret (v := tkV k i tx vl n) (by simp [results, Try.results23, go_sem, tkV, t0, t1, t2, t3, t4, hlt4, size_setCell]) rfl ⟨by rw [HN2.out], ?_⟩
    rw [HN2.out]
    exact Below.alloc (Below.five (LT.fin HT.out hlt) (Nat.le_refl _) _ _ _ _ _) (by simp only [size_setCell]; omega) _
end Go.Proofs.Qxb6604722a
