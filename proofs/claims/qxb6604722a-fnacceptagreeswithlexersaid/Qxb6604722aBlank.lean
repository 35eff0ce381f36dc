import Derived.Test.Qxb6604722aSkip
namespace Go.Proofs.Qxb6604722a
open Go.ChangeShapes Go.WideShapes Go.ChangeAt Go.RowKit
open Pl Lx
set_option linter.unusedSimpArgs false
set_option linter.unusedVariables false

theorem LS.cells {w wr : World} {L o : Nat} {src : ByteArray} {pos i : Nat} {mk : Bool} {md : Int} (h : LexAt w L o src pos mk md) (hs : LS w wr L o i) :
    wr.cell? ⟨L, o, none⟩ = some (.string src) ∧ wr.cell? ⟨L, o + 1, none⟩ = some (.int .i64 i) ∧ wr.frozen? ⟨L, o + 1, none⟩ = false :=
  ⟨(LS.lex h hs).c0, (LS.lex h hs).c1, (LS.lex h hs).fr (o + 1)⟩

/-- The result's five cells are stored: the caller sees only the place moved. -/
theorem LS.done {w wr : World} {L o i : Nat} (h : LS w wr L o i) (hL : L < w.heap.size) (a b c d e : Value) :
    Below w.heap.size (w.setCell ⟨L, o + 1, none⟩ (.int .i64 i)) (((((wr.setCell ⟨w.heap.size, 0, none⟩ a).setCell ⟨w.heap.size, 1, none⟩ b).setCell ⟨w.heap.size, 2, none⟩ c).setCell ⟨w.heap.size, 3, none⟩ d).setCell ⟨w.heap.size, 4, none⟩ e) :=
  ((((((h.fin hL).setCell (Nat.le_refl _) _).setCell (Nat.le_refl _) _).setCell (Nat.le_refl _) _).setCell (Nat.le_refl _) _).setCell (Nat.le_refl _) _)

theorem nl_neg {s : ByteArray} {i : Nat} (h : Lib.indexByte (s.data.toList.drop i) 10 = -1) : nl s i = s.size := by unfold nl; rw [h]; rfl
theorem nl_pos {s : ByteArray} {i m : Nat} (h : Lib.indexByte (s.data.toList.drop i) 10 = (m : Int)) : nl s i = i + m + 1 := by unfold nl; rw [h, if_neg (by omega)]; omega

set_option maxRecDepth 20000 in
set_option maxHeartbeats 8000000 in
theorem skipBlanks_any (L o : Nat) (src : ByteArray) (pos : Nat) (mk : Bool) (md : Int) (w : World) (hp : pos ≤ src.size) (hs : src.size ≤ 1048576) (hL : LexAt w L o src pos mk md) :
    Calls Try.prog 31 #[.pointer (some ⟨L, o, none⟩)] w fun e w' => e = .returned (.tuple #[skTok (sk src src.size pos), .bool (sk src src.size pos).1]) ∧ Below w.heap.size (w.setCell ⟨L, o + 1, none⟩ (.int .i64 (sk src src.size pos).2.2)) w' := by
  have hB := SK.start src pos
  generalize sk src src.size pos = r at hB
  have HL : Hid (LexAt w L o src pos mk md) := hL
  have hS := LS.start hL
  have hlt := hL.lt
  clear hL
  go_enter Try.func31, Try.ntmps31
  go_wp2_with fail
  go_loopg [3] src.size (fun g dp wr => ∃ (i : Nat), i ≤ src.size ∧ dp = .bool false ∧ SK src r g i ∧ LS w wr L o i)
  case atStart => exact ⟨pos, hp, rfl, hB, hS⟩
  case round =>
    clear hB hS
    obtain ⟨i, hi, rfl, hB, hbel⟩ := hrel
    obtain ⟨c0, c1, f1⟩ := LS.cells HL.out hbel
    have HB : Hid (SK src r gk i) := hB
    have HW : Hid (LS w wr L o i) := hbel
    clear hB hbel
    have hi' : (i : Int) ≤ (src.size : Int) := by omega
    have hi0 : (0 : Int) ≤ (i : Int) := by omega
    by_cases hlt2 : i < src.size
    · have hlt' : (i : Int) < (src.size : Int) := by omega
      go_wp2_with fail
      go_quiet (fail)
      go_wp2_with fail
      have HW1 : Hid (LS w (wr.drewN nq) L o i) := LS.drewN HW.out nq
      generalize wr.drewN nq = w1 at HW1 ⊢
      clear c0 c1 f1 HW
      obtain ⟨c0, c1, f1⟩ := LS.cells HL.out HW1.out
      go_quiet (fail)
      have HW : Hid (LS w (w1.drewN nq) L o i) := LS.drewN HW1.out nq
      generalize w1.drewN nq = w2 at HW ⊢
      clear c0 c1 f1 HW1
      obtain ⟨c0, c1, f1⟩ := LS.cells HL.out HW.out
      have hcb : cb src i = (src[i].toNat : Int) := cb_at hlt2
      rw [← hcb]
      obtain ⟨c, hc⟩ : ∃ c, c = cb src i := ⟨_, rfl⟩
      rw [← hc]
      have HC : Hid (c = cb src i) := hc
      clear hcb hc
      by_cases hb : blB c = true
      · have HG : Hid (∃ g', gk = g' + 1 ∧ SK src r g' (i + 1)) := HB.out.blank hlt2 (by rw [← HC.out]; exact hb)
        clear HB
        go_upto_region 4 with fail
        go_cut [27] from 28 to 49 (fun t wx => t = .bool true ∧ wx = w2)
        case first =>
          have hor : c = 32 ∨ c = 9 ∨ c = 10 ∨ c = 13 ∨ c = 12 ∨ c = 11 := by simpa [blB, or_assoc] using hb
          clear hb HC
          rcases hor with rfl | rfl | rfl | rfl | rfl | rfl
          all_goals
            go_wp2_with fail
            go_meet
            exact ⟨rfl, rfl⟩
        case rest =>
          obtain ⟨rfl, rfl⟩ := hcut
          clear hb
          go_wp2
          obtain ⟨g', hg, hB'⟩ := HG.out
          go_roundg g'
          case measure => rw [hg]; omega
          case rel => exact ⟨i + 1, by omega, rfl, hB', LS.move HW.out _⟩
      · have hb' : blB (cb src i) = false := by rw [← HC.out]; simpa using hb
        have HB0 : Hid (blB (cb src i) = false) := hb'
        have hand : ¬ c = 32 ∧ ¬ c = 9 ∧ ¬ c = 10 ∧ ¬ c = 13 ∧ ¬ c = 12 ∧ ¬ c = 11 := by
          simp [blB] at hb; omega
        clear hb hb'
        obtain ⟨h1, h2, h3, h4, h5, h6⟩ := hand
        have e1 : (c == 32) = false := by simpa using h1
        have e2 : (c == 9) = false := by simpa using h2
        have e3 : (c == 10) = false := by simpa using h3
        have e4 : (c == 13) = false := by simpa using h4
        have e5 : (c == 12) = false := by simpa using h5
        have e6 : (c == 11) = false := by simpa using h6
        clear h1 h2 h3 h4 h5 h6 HC
        go_wp2_with fail
        clear e1 e2 e3 e4 e5 e6
        go_quiet ((go_at_call 38; exact Calls.quiet_of_same (Try.strings_HasPrefix _ _ _)))
        rw [rest_list]
        rw [show Lib.hasPrefix (src.data.toList.drop i) (ByteArray.mk #[45, 45]).data.toList = two src i 45 45 from pre_two src i 45 45]
        have HW1 : Hid (LS w (w2.drewN nq) L o i) := LS.drewN HW.out nq
        generalize w2.drewN nq = w1 at HW1 ⊢
        clear c0 c1 f1 HW
        obtain ⟨c0, c1, f1⟩ := LS.cells HL.out HW1.out
        cases ht : two src i 45 45
        · have HT : Hid (two src i 45 45 = false) := ht
          clear ht
          go_wp2_with fail
          go_quiet ((go_at_call 38; exact Calls.quiet_of_same (Try.strings_HasPrefix _ _ _)))
          rw [rest_list]
          rw [show Lib.hasPrefix (src.data.toList.drop i) (ByteArray.mk #[47, 42]).data.toList = two src i 47 42 from pre_two src i 47 42]
          have HW : Hid (LS w (w1.drewN nq) L o i) := LS.drewN HW1.out nq
          generalize w1.drewN nq = w2 at HW ⊢
          clear c0 c1 f1 HW1
          obtain ⟨c0, c1, f1⟩ := LS.cells HL.out HW.out
          cases hu : two src i 47 42
          · have HE : Hid (r = (true, 0, i)) := HB.out.stop hlt2 HB0.out HT.out hu
            clear hu
            obtain ⟨t0, t1, t2, t3, t4, tf⟩ := LS.tok HW.out hlt
            go_wp2
            refine bodyPost_ret (v := .tuple #[tkV 0 0 ⟨#[]⟩ ⟨#[]⟩ 0, .bool true]) (by simp [results, Try.results31, go_sem, tkV, t0, t1, t2, t3, t4]) rfl ⟨ret_of ?_, ?_⟩
            · rw [HE.out]; rfl
            · rw [HE.out]; exact LS.done HW.out hlt _ _ _ _ _
          · have HU : Hid (two src i 47 42 = true) := hu
            have HM : Hid ((bc src src.size i 0).2 ≤ src.size) := (bc_moves hu).2
            clear hu
            go_wp2_with fail
            refine (blockComment_any L o src i mk md _ hi hs (LS.lex HL.out HW.out)).mono ?_
            rintro e w3 ⟨rfl, hb3⟩
            have HW3 : Hid (LS w w3 L o (bc src src.size i 0).2) := LS.call HW.out hb3
            clear c0 c1 f1 HW hb3
            cases hg : (bc src src.size i 0).1
            · have HE : Hid (r = (false, i, (bc src src.size i 0).2)) := HB.out.open hlt2 HB0.out HT.out HU.out hg
              clear hg
              obtain ⟨t0, t1, t2, t3, t4, tf⟩ := LS.tok HW3.out hlt
              go_wp2
              refine bodyPost_ret (v := .tuple #[tkV 11 i ⟨#[47, 42]⟩ openMsg 0, .bool false]) (by simp [results, Try.results31, go_sem, tkV, openMsg, t0, t1, t2, t3, t4]) rfl ⟨ret_of ?_, ?_⟩
              · rw [HE.out]; rfl
              · rw [HE.out]; exact LS.done HW3.out hlt _ _ _ _ _
            · have HG : Hid (∃ g', gk = g' + 1 ∧ SK src r g' (bc src src.size i 0).2) := HB.out.block hlt2 HB0.out HT.out HU.out hg
              clear hg
              go_wp2
              obtain ⟨g', hg, hB'⟩ := HG.out
              go_roundg g'
              case measure => rw [hg]; omega
              case rel => exact ⟨_, HM.out, rfl, hB', HW3.out⟩
        · have HG : Hid (∃ g', gk = g' + 1 ∧ SK src r g' (nl src i)) := HB.out.line hlt2 HB0.out ht
          have HN := nl_bounds hlt2
          clear ht
          go_wp2_with fail
          go_quiet ((go_at_call 27; exact Calls.quiet_of_same (Try.strings_IndexByte _ _ _)))
          rw [rest_list]
          have HW : Hid (LS w (w1.drewN nq) L o i) := LS.drewN HW1.out nq
          generalize w1.drewN nq = w2 at HW ⊢
          clear c0 c1 f1 HW1
          obtain ⟨c0, c1, f1⟩ := LS.cells HL.out HW.out
          rw [show (Int.toNat 10).toUInt8 = (10 : UInt8) from rfl]
          rcases ib_spec (src.data.toList.drop i) 10 with ⟨h1, _⟩ | ⟨m, h1, _⟩
          · have hn := nl_neg h1
            rw [h1]
            rw [hn] at HG HN
            clear h1 hn
            go_wp2
            obtain ⟨g', hg, hB'⟩ := HG.out
            go_roundg g'
            case measure => rw [hg]; omega
            case rel => exact ⟨src.size, Nat.le_refl _, rfl, hB', LS.move HW.out _⟩
          · have hn := nl_pos h1
            rw [h1]
            rw [hn] at HG HN
            clear h1 hn
            have hm0 : ¬ (m : Int) < 0 := by omega
            go_wp2
            obtain ⟨g', hg, hB'⟩ := HG.out
            go_roundg g'
            case measure => rw [hg]; omega
            case rel => exact ⟨i + m + 1, HN.2, rfl, hB', by
              have := LS.move HW.out (i + m + 1)
              rw [show ((i + m + 1 : Nat) : Int) = (i : Int) + ((m : Int) + 1) from by omega] at this
              unfold LS at this ⊢
              rw [show ((i + m + 1 : Nat) : Int) = (i : Int) + ((m : Int) + 1) from by omega]
              exact this⟩
    · have hlt' : ¬ (i : Int) < (src.size : Int) := by omega
      have HE : Hid (r = (true, 0, i)) := HB.out.ended hlt2
      go_wp2_with fail
      go_quiet (fail)
      have HW1 : Hid (LS w (wr.drewN nq) L o i) := LS.drewN HW.out nq
      generalize wr.drewN nq = w1 at HW1 ⊢
      obtain ⟨t0, t1, t2, t3, t4, tf⟩ := LS.tok HW1.out hlt
      go_wp2
      refine bodyPost_ret (v := .tuple #[tkV 0 0 ⟨#[]⟩ ⟨#[]⟩ 0, .bool true]) (by simp [results, Try.results31, go_sem, tkV, t0, t1, t2, t3, t4]) rfl ⟨ret_of ?_, ?_⟩
      · rw [HE.out]; rfl
      · rw [HE.out]; exact LS.done HW1.out hlt _ _ _ _ _
end Go.Proofs.Qxb6604722a
