import Derived.Test.Qxb6604722aOp
namespace Go.Proofs.Qxb6604722a
open Go.ChangeShapes Go.WideShapes Go.ChangeAt Go.RowKit
open Pl Lx
set_option linter.unusedSimpArgs false
set_option linter.unusedVariables false

set_option maxRecDepth 20000 in
set_option maxHeartbeats 8000000 in
theorem read_any (L o : Nat) (src : ByteArray) (pos : Nat) (mk : Bool) (md : Int) (w : World) (hp : pos ≤ src.size) (hs : src.size ≤ 1048576) (hm0 : 0 ≤ md) (hm1 : md ≤ 1048576) (hL : LexAt w L o src pos mk md) :
    Calls Try.prog 32 #[.pointer (some ⟨L, o, none⟩)] w fun e w' => e = .returned (rd src mk md pos).1 ∧ LM w w' L o (rd src mk md pos).2.1 (rd src mk md pos).2.2 := by
  have HL : Hid (LexAt w L o src pos mk md) := hL
  have hlt := hL.lt
  have HW : Hid (LS w (w.alloc (.cells #[.int .i64 0, .int .i64 0, .string ⟨#[]⟩, .string ⟨#[]⟩, .int .i64 0] 50)) L o pos) := LS.start hL
  obtain ⟨c0, c1, f1, c2⟩ := LS.all HL.out HW.out
  clear hL
  have hp0 : (0 : Int) ≤ (pos : Int) := by omega
  go_enter Try.func32, Try.ntmps32
  go_upto_region 1 with fail
  generalize (w.alloc (.cells #[.int .i64 0, .int .i64 0, .string ⟨#[]⟩, .string ⟨#[]⟩, .int .i64 0] 50)) = w1 at HW c0 c1 f1 c2 ⊢
  by_cases hlt2 : pos < src.size
  · have hlt' : (pos : Int) < (src.size : Int) := by omega
    have hge : ¬ (src.size : Int) ≤ (pos : Int) := by omega
    go_quiet (fail)
    have HW2 : Hid (LS w (w1.drewN nq) L o pos) := LS.drewN HW.out nq
    generalize w1.drewN nq = w2 at HW2 ⊢
    clear c0 c1 f1 c2 HW
    obtain ⟨c0, c1, f1, c2⟩ := LS.all HL.out HW2.out
    go_wp2_with fail
    rw [← cb_at hlt2]
    refine (isWordStart_any _ _).mono ?_
    rintro e w' ⟨rfl, rfl⟩
    cases hws : wsB (cb src pos)
    · have HWS : Hid (wsB (cb src pos) = false) := hws
      clear hws
      go_upto_region 10 with fail
      go_cut [76] from 77 to 102 (fun t wx => t = .bool (numB src pos) ∧ wx = w')
      case first =>
        clear HWS HL HW2
        cases hd : digB (cb src pos)
        · cases h46 : (cb src pos == 46)
          · go_wp2_with (go_at_call 43; refine (isDigit_any _ _).mono ?_; rintro e w' ⟨rfl, rfl⟩)
            go_meet
            exact ⟨by simp [numB, hd, h46], rfl⟩
          · by_cases h1 : pos + 1 < src.size
            · have h1' : (pos : Int) + 1 < (src.size : Int) := by omega
              have hd1 : decide ((pos : Int) + 1 < (src.size : Int)) = true := decide_eq_true h1'
              have htn : ((pos : Int) + 1).toNat = pos + 1 := by omega
              go_wp2_with (go_at_call 43; refine (isDigit_any _ _).mono ?_; rintro e w' ⟨rfl, rfl⟩)
              go_meet
              exact ⟨by simp [numB, hd, h46, h1, cb_at h1], rfl⟩
            · have hd1 : decide ((pos : Int) + 1 < (src.size : Int)) = false := decide_eq_false (by omega)
              go_wp2_with (go_at_call 43; refine (isDigit_any _ _).mono ?_; rintro e w' ⟨rfl, rfl⟩)
              go_meet
              exact ⟨by simp [numB, hd, h46, h1], rfl⟩
        · go_wp2_with (go_at_call 43; refine (isDigit_any _ _).mono ?_; rintro e w' ⟨rfl, rfl⟩)
          go_meet
          exact ⟨by simp [numB, hd], rfl⟩
      case rest =>
        obtain ⟨rfl, rfl⟩ := hcut
        cases hnb : numB src pos
        · have HNB : Hid (numB src pos = false) := hnb
          clear hnb
          cases h39 : (cb src pos == 39)
          · have H39 : Hid (¬ cb src pos = 39) := by unfold Hid; simpa using h39
            go_upto_region 14 with fail
            clear h39
            cases h34 : (cb src pos == 34)
            · have H34 : Hid (¬ cb src pos = 34) := by unfold Hid; simpa using h34
              go_upto_region 19 with fail
              clear h34
              cases h59 : (cb src pos == 59)
              · have H59 : Hid (¬ cb src pos = 59) := by unfold Hid; simpa using h59
                go_upto_region 22 with fail
                clear h59
                go_cut [138] from 139 to 149 (fun t wx => t = .bool (two src pos 58 58) ∧ wx = wc)
                case first =>
                  clear HWS HNB H39 H34 H59
                  cases h58 : (cb src pos == 58)
                  · go_wp2_with fail
                    go_meet
                    exact ⟨by simp [two, h58], rfl⟩
                  · have hps : (pos : Int) ≤ (src.size : Int) := by omega
                    go_wp2_with fail
                    refine (Try.strings_HasPrefix _ _ _).mono ?_
                    rintro e w' ⟨rfl, rfl⟩
                    rw [rest_list]
                    rw [show Lib.hasPrefix (src.data.toList.drop pos) (ByteArray.mk #[58, 58]).data.toList = two src pos 58 58 from pre_two src pos 58 58]
                    go_wp2_with fail
                    go_meet
                    exact ⟨rfl, rfl⟩
                case rest =>
                  obtain ⟨rfl, rfl⟩ := hcut
                  cases h5 : two src pos 58 58
                  · have H5 : Hid (two src pos 58 58 = false) := h5
                    clear h5
                    by_cases h63 : cb src pos = 63 ∧ mk = true
                    · have HR : Hid (rd src mk md pos = (tkV 9 0 ⟨#[63]⟩ ⟨#[]⟩ md, pos + 1, md + 1)) := by
                        unfold Hid rd; rw [if_pos hlt2, if_neg (by rw [HWS.out]; simp), if_neg (by rw [HNB.out]; simp), if_neg H39.out, if_neg H34.out, if_neg H59.out, if_neg (by rw [H5.out]; simp), if_pos h63]
                      clear HWS HNB H39 H34 H59 H5
                      obtain ⟨h63a, rfl⟩ := h63
                      have h63b : (cb src pos == 63) = true := by simpa using h63a
                      clear h63a
                      have c3 := (LS.lex HL.out HW2.out).c3
                      have f3 := (LS.lex HL.out HW2.out).fr (o + 3)
                      obtain ⟨t0, t1, t2, t3, t4, tf⟩ := LS.tok HW2.out hlt
                      have hne : L ≠ w.heap.size := by omega
                      have hmd : md + 1 - 1 = md := by omega
                      go_wp2
                      refine bodyPost_ret (v := tkV 9 0 ⟨#[63]⟩ ⟨#[]⟩ md) (by simp [results, Try.results32, go_sem, tkV, t0, t1, t2, t3, t4]) rfl ⟨by rw [HR.out], ?_⟩
                      rw [HR.out]
                      exact Below.five (Below.both (LS.fin (LS.move HW2.out (pos + 1)) hlt) ⟨L, o + 3, none⟩ (.int .i64 (md + 1))) (Nat.le_refl _) _ _ _ _ _
                    · have H63 : Hid (¬ (cb src pos = 63 ∧ mk = true)) := h63
                      go_upto_region 25 with fail
                      go_cut [158] from 159 to 166 (fun t wx => t = .bool false ∧ wx = wc)
                      case first =>
                        clear HWS HNB H39 H34 H59 H5 H63
                        cases h63b : (cb src pos == 63)
                        · go_wp2_with fail
                          go_meet
                          exact ⟨rfl, rfl⟩
                        · have hmk : mk = false := by
                            cases mk with
                            | false => rfl
                            | true => exact absurd ⟨by simpa using h63b, rfl⟩ h63
                          subst hmk
                          go_wp2_with fail
                          go_meet
                          exact ⟨rfl, rfl⟩
                      case rest =>
                        obtain ⟨rfl, rfl⟩ := hcut
                        clear h63
                        go_wp2_with fail
                        refine (operatorChar_any L o src pos mk md _ _ (LS.lex HL.out HW2.out)).mono ?_
                        rintro e w' ⟨rfl, rfl⟩
                        cases hop : opB mk (cb src pos)
                        · have HR : Hid (rd src mk md pos = (tkV 7 0 (src.extract pos (pos + 1)) (src.extract pos (pos + 1)) 0, pos + 1, md)) := by
                            unfold Hid rd; rw [if_pos hlt2, if_neg (by rw [HWS.out]; simp), if_neg (by rw [HNB.out]; simp), if_neg H39.out, if_neg H34.out, if_neg H59.out, if_neg (by rw [H5.out]; simp), if_neg H63.out, if_neg (by rw [hop]; simp)]
                          clear HWS HNB H39 H34 H59 H5 H63 hop
                          go_upto_region 39 with fail
                          have HW3 : Hid (LS w (w'.setCell ⟨L, o + 1, none⟩ (.int .i64 (pos + 1 : Nat))) L o (pos + 1)) := LS.move HW2.out _
                          rw [show ((pos : Int) + 1) = ((pos + 1 : Nat) : Int) from by omega]
                          generalize w'.setCell ⟨L, o + 1, none⟩ (.int .i64 ((pos + 1 : Nat) : Int)) = w3 at HW3 ⊢
                          clear c0 c1 f1 c2 HW2
                          obtain ⟨c0, c1, f1, c2⟩ := LS.all HL.out HW3.out
                          have e1 : (pos : Int) ≤ ((pos + 1 : Nat) : Int) := by omega
                          have e2 : ((pos + 1 : Nat) : Int) ≤ (src.size : Int) := by omega
                          obtain ⟨j, hj⟩ : ∃ j, j = pos + 1 := ⟨_, rfl⟩
                          rw [← hj] at c1 e1 e2 HW3 HR ⊢
                          clear hj
                          go_quiet (fail)
                          have HW4 : Hid (LS w (w3.drewN nq) L o j) := LS.drewN HW3.out nq
                          generalize w3.drewN nq = w4 at HW4 ⊢
                          clear c0 c1 f1 c2 HW3
                          obtain ⟨t0, t1, t2, t3, t4, tf⟩ := LS.tok HW4.out hlt
                          go_wp2
                          refine bodyPost_ret (v := tkV 7 0 (src.extract pos j) (src.extract pos j) 0) (by simp [results, Try.results32, go_sem, tkV, t0, t1, t2, t3, t4]) rfl ⟨by rw [HR.out], ?_⟩
                          rw [HR.out]
                          exact LM.of HL.out (LS.done HW4.out hlt _ _ _ _ _)
                        · have HR : Hid (rd src mk md pos = (tkV 6 0 (src.extract pos (opEnd src mk pos)) (src.extract pos (opEnd src mk pos)) 0, opEnd src mk pos, md)) := by
                            unfold Hid rd; rw [if_pos hlt2, if_neg (by rw [HWS.out]; simp), if_neg (by rw [HNB.out]; simp), if_neg H39.out, if_neg H34.out, if_neg H59.out, if_neg (by rw [H5.out]; simp), if_neg H63.out, if_pos hop]
                          clear HWS HNB H39 H34 H59 H5 H63
                          have HA : Hid (∀ (j : Nat) b, (src.extract pos (orun src mk src.size (pos + 1))).data.toList[j]? = some b → b.toNat < 128) := op_ascii hlt2 hop
                          have hR0 := OR.start src mk (pos + 1)
                          have hE : opEnd src mk pos = if Lib.containsAny (src.extract pos (orun src mk src.size (pos + 1))).data.toList special.data.toList = true then orun src mk src.size (pos + 1) else trim src pos (orun src mk src.size (pos + 1)) := rfl
                          have HE : Hid (opEnd src mk pos = if Lib.containsAny (src.extract pos (orun src mk src.size (pos + 1))).data.toList special.data.toList = true then orun src mk src.size (pos + 1) else trim src pos (orun src mk src.size (pos + 1))) := hE
                          clear hE
                          generalize opEnd src mk pos = oe at HR HE
                          have hn1 := orun_le (s := src) (mk := mk) src.size (pos + 1)
                          have hn2 := orun_size (s := src) (mk := mk) src.size (pos + 1) hlt2
                          generalize orun src mk src.size (pos + 1) = en at hR0 HE HA hn1 hn2
                          go_upto_region 31 with fail
                          go_loopg [225] src.size (fun g _ wr => ∃ j : Nat, pos + 1 ≤ j ∧ j ≤ src.size ∧ OR src mk en g j ∧ LS w wr L o j)
                          case atStart => exact ⟨pos + 1, Nat.le_refl _, hlt2, hR0, LS.move HW2.out _⟩
                          case round =>
                            clear hR0 c0 c1 f1 c2 HW2 hop
                            obtain ⟨j, hj1, hj2, hR, hW⟩ := hrel
                            have HW : Hid (LS w wr L o j) := hW
                            have HQ : Hid (OR src mk en gk j) := hR
                            clear hR hW
                            obtain ⟨c0, c1, f1, c2⟩ := LS.all HL.out HW.out
                            have HX : Hid (LexAt wr L o src j mk md) := LS.lex HL.out HW.out
                            have hj0 : (0 : Int) ≤ (j : Int) := by omega
                            have hpj : (pos : Int) ≤ (j : Int) := by omega
                            have hjs : (j : Int) ≤ (src.size : Int) := by omega
                            by_cases hgo : j < src.size ∧ opB mk (cb src j) = true ∧ cm src j = false
                            · obtain ⟨hjl, hob, hcm⟩ := hgo
                              obtain ⟨g', hg, hR'⟩ := HQ.out.go hjl hob hcm
                              have HG : Hid (gk = g' + 1) := hg
                              have HR' : Hid (OR src mk en g' (j + 1)) := hR'
                              clear hg hR'
                              rw [cb_at hjl] at hob
                              have hjl' : (j : Int) < (src.size : Int) := by omega
                              have hd : decide ((j : Int) < (src.size : Int)) = true := decide_eq_true hjl'
                              go_wp2_with fail
                              go_quiet ((first | (go_at_call 45; exact Calls.quiet_of_same (operatorChar_any L o src j mk md _ _ (HX.out.drewN' _))) | (go_at_call 46; exact Calls.quiet_of (commentAhead_any L o src j mk md _ hj2 hs (HX.out.drewN' _)))))
                              have HW3 : Hid (LS w (wr.drewN nq) L o j) := LS.drewN HW.out nq
                              generalize wr.drewN nq = w3 at HW3 ⊢
                              clear c0 c1 f1 c2 HW HX
                              obtain ⟨c0, c1, f1, c2⟩ := LS.all HL.out HW3.out
                              go_wp2
                              go_roundg g'
                              case measure => rw [HG.out]; omega
                              case rel => exact ⟨j + 1, by omega, by omega, HR'.out, LS.move HW3.out _⟩
                            · have HJ : Hid (en = j) := HQ.out.stop hgo
                              go_wp2_with fail
                              go_cut [225] from 198 to 224 (fun t wx => t = .bool false ∧ ∃ m, wx = wr.drewN m)
                              case first =>
                                by_cases hjl : j < src.size
                                · have hjl' : (j : Int) < (src.size : Int) := by omega
                                  have hd : decide ((j : Int) < (src.size : Int)) = true := decide_eq_true hjl'
                                  cases hob : opB mk (cb src j)
                                  · rw [cb_at hjl] at hob
                                    clear hgo
                                    go_quiet ((first | (go_at_call 45; exact Calls.quiet_of_same (operatorChar_any L o src j mk md _ _ (HX.out.drewN' _))) | (go_at_call 46; exact Calls.quiet_of (commentAhead_any L o src j mk md _ hj2 hs (HX.out.drewN' _)))))
                                    go_wp2_with fail
                                    go_meet
                                    case rel => exact ⟨rfl, _, rfl⟩
                                  · have hcm : cm src j = true := by
                                      cases h : cm src j with
                                      | true => rfl
                                      | false => exact absurd ⟨hjl, hob, h⟩ hgo
                                    rw [cb_at hjl] at hob
                                    clear hgo
                                    go_quiet ((first | (go_at_call 45; exact Calls.quiet_of_same (operatorChar_any L o src j mk md _ _ (HX.out.drewN' _))) | (go_at_call 46; exact Calls.quiet_of (commentAhead_any L o src j mk md _ hj2 hs (HX.out.drewN' _)))))
                                    go_wp2_with fail
                                    go_meet
                                    case rel => exact ⟨rfl, _, rfl⟩
                                · have hd : decide ((j : Int) < (src.size : Int)) = false := decide_eq_false (by omega)
                                  have hjl' : ¬ (j : Int) < (src.size : Int) := by omega
                                  clear hgo
                                  go_quiet (fail)
                                  go_wp2_with fail
                                  go_meet
                                  case rel => exact ⟨rfl, _, rfl⟩
                              case rest =>
                                obtain ⟨rfl, nq2, rfl⟩ := hcut
                                have HW3 : Hid (LS w (wr.drewN nq2) L o j) := LS.drewN HW.out nq2
                                generalize wr.drewN nq2 = w3 at HW3 ⊢
                                clear c0 c1 f1 c2 HW HX hgo HQ
                                obtain ⟨c0, c1, f1, c2⟩ := LS.all HL.out HW3.out
                                have hz : (src.extract pos j).size < 4294967281 := by rw [ByteArray.size_extract]; omega
                                have HA2 : Hid (∀ (t : Nat) b, (src.extract pos j).data.toList[t]? = some b → b.toNat < 128) := by rw [← HJ.out]; exact HA.out
                                have HZ : Hid ((src.extract pos j).size < 4294967281) := hz
                                clear hz HA
                                go_upto_region 33 with fail
                                go_cut [244] from 233 to 243 (fun t wx => t = .bool (!Lib.containsAny (src.extract pos j).data.toList special.data.toList) ∧ LS w wx L o j)
                                case first =>
                                  go_region_with (go_at_call 47; refine (Try.strings_ContainsAny_laid (src.extract pos j) special _ HZ.out (by decide) HA2.out special_ascii).mono ?_; rintro e w5 ⟨rfl, hb5⟩; have HW5 : Hid (LS w w5 L o j) := LS.quiet (LS.drewN HW3.out _) hb5; clear hb5)
                                  all_goals (try go_wp2_with fail)
                                  all_goals go_meet
                                  all_goals exact ⟨by first | rfl | rw [Lib.extract_data], by first | exact HW5.out | exact LS.drewN HW5.out _⟩
                                case rest =>
                                  obtain ⟨rfl, hW5⟩ := hcut
                                  have HW5 : Hid (LS w wc L o j) := hW5
                                  clear hW5 HW3 c0 c1 f1 c2 HA2 HZ
                                  obtain ⟨c0, c1, f1, c2⟩ := LS.all HL.out HW5.out
                                  rw [HJ.out] at HE
                                  cases hca : Lib.containsAny (src.extract pos j).data.toList special.data.toList
                                  · have HO0 : Hid (trim src pos j = oe) := by unfold Hid; rw [HE.out, if_neg (by rw [hca]; simp)]
                                    clear hca HE
                                    go_wp2_with fail
                                    go_loopg [277] j (fun g _ wr => ∃ t : Nat, pos + 1 ≤ t ∧ t ≤ src.size ∧ t ≤ g ∧ trim src pos t = oe ∧ LS w wr L o t)
                                    case atStart => exact ⟨j, hj1, hj2, Nat.le_refl _, HO0.out, HW5.out⟩
                                    case round =>
                                      clear HO0 c0 c1 f1 c2 HW5
                                      obtain ⟨t, ht1, ht2, ht3, hT, hW⟩ := hrel
                                      have HW : Hid (LS w wr L o t) := hW
                                      have HT : Hid (trim src pos t = oe) := hT
                                      clear hT hW
                                      obtain ⟨c0, c1, f1, c2⟩ := LS.all HL.out HW.out
                                      have ht0 : (0 : Int) ≤ (t : Int) := by omega
                                      have hpt : (pos : Int) ≤ (t : Int) := by omega
                                      have hts : (t : Int) ≤ (src.size : Int) := by omega
                                      have htn : ((t : Int) - 1).toNat = t - 1 := by omega
                                      have htl : (t : Int) - 1 < (src.size : Int) := by omega
                                      have htz : (0 : Int) ≤ (t : Int) - 1 := by omega
                                      have htk : t - 1 < src.size := by omega
                                      have htm : (t : Int) - 1 = ((t - 1 : Nat) : Int) := by omega
                                      go_wp2_with fail
                                      go_cut [277] from 245 to 276 (fun b wx => b = .bool (decide (pos < t - 1) && sgnP (cb src (t - 1))) ∧ ∃ m, wx = wr.drewN m)
                                      case first =>
                                        by_cases hgt : pos < t - 1
                                        · have hgt' : (1 : Int) < (t : Int) - (pos : Int) := by omega
                                          have hd : decide ((1 : Int) < (t : Int) - (pos : Int)) = true := decide_eq_true hgt'
                                          cases h43 : ((src[t - 1].toNat : Int) == 43)
                                          · go_quiet (fail)
                                            go_wp2_with fail
                                            go_meet
                                            case rel => exact ⟨by simp [hgt, sgnP, cb_at htk, h43], _, rfl⟩
                                          · go_quiet (fail)
                                            go_wp2_with fail
                                            go_meet
                                            case rel => exact ⟨by simp [hgt, sgnP, cb_at htk, h43], _, rfl⟩
                                        · have hgt' : ¬ (1 : Int) < (t : Int) - (pos : Int) := by omega
                                          have hd : decide ((1 : Int) < (t : Int) - (pos : Int)) = false := decide_eq_false hgt'
                                          go_quiet (fail)
                                          go_wp2_with fail
                                          go_meet
                                          case rel => exact ⟨by simp [hgt], _, rfl⟩
                                      case rest =>
                                        obtain ⟨rfl, nq2, rfl⟩ := hcut
                                        have HW3 : Hid (LS w (wr.drewN nq2) L o t) := LS.drewN HW.out nq2
                                        generalize wr.drewN nq2 = w3 at HW3 ⊢
                                        clear c0 c1 f1 c2 HW
                                        obtain ⟨c0, c1, f1, c2⟩ := LS.all HL.out HW3.out
                                        cases hb : (decide (pos < t - 1) && sgnP (cb src (t - 1)))
                                        · have HO : Hid (oe = t) := by
                                            unfold Hid; rw [← HT.out]
                                            refine trim_stop (by omega) (fun h => ?_)
                                            rw [h.2] at hb; simp [h.1] at hb
                                          clear hb HT htm
                                          go_wp2_with fail
                                          go_quiet (fail)
                                          have HWa : Hid (LS w (w3.drewN nq) L o t) := LS.drewN HW3.out nq
                                          generalize w3.drewN nq = wa at HWa ⊢
                                          clear c0 c1 f1 c2 HW3
                                          obtain ⟨t0, t1, t2, t3, t4, tf⟩ := LS.tok HWa.out hlt
                                          go_wp2
                                          refine bodyPost_ret (v := tkV 6 0 (src.extract pos t) (src.extract pos t) 0) (by simp [results, Try.results32, go_sem, tkV, t0, t1, t2, t3, t4]) rfl ⟨by rw [HR.out, HO.out], ?_⟩
                                          rw [HR.out, HO.out]
                                          exact LM.of HL.out (LS.done HWa.out hlt _ _ _ _ _)
                                        · obtain ⟨k, rfl⟩ : ∃ k, t = k + 1 := ⟨t - 1, by omega⟩
                                          have hb2 : pos < k ∧ sgnP (cb src k) = true := by simpa using hb
                                          have HT2 : Hid (trim src pos k = oe) := by unfold Hid; rw [← HT.out, trim_go hb2.1 hb2.2]
                                          have hk : ((k + 1 : Nat) : Int) - 1 = (k : Int) := by omega
                                          clear hb htm
                                          go_wp2
                                          go_roundg k
                                          case measure => omega
                                          case rel => exact ⟨k, by omega, by omega, Nat.le_refl _, HT2.out, LS.move HW3.out _⟩
                                  · have HO : Hid (oe = j) := by unfold Hid; rw [HE.out, if_pos hca]
                                    clear hca HE
                                    go_wp2_with fail
                                    go_quiet (fail)
                                    have HWa : Hid (LS w (wc.drewN nq) L o j) := LS.drewN HW5.out nq
                                    generalize wc.drewN nq = wa at HWa ⊢
                                    clear c0 c1 f1 c2 HW5
                                    obtain ⟨t0, t1, t2, t3, t4, tf⟩ := LS.tok HWa.out hlt
                                    go_wp2
                                    refine bodyPost_ret (v := tkV 6 0 (src.extract pos j) (src.extract pos j) 0) (by simp [results, Try.results32, go_sem, tkV, t0, t1, t2, t3, t4]) rfl ⟨by rw [HR.out, HO.out], ?_⟩
                                    rw [HR.out, HO.out]
                                    exact LM.of HL.out (LS.done HWa.out hlt _ _ _ _ _)
                  · have HR : Hid (rd src mk md pos = (tkV 8 0 ⟨#[58, 58]⟩ ⟨#[]⟩ 0, pos + 2, md)) := by
                      unfold Hid rd; rw [if_pos hlt2, if_neg (by rw [HWS.out]; simp), if_neg (by rw [HNB.out]; simp), if_neg H39.out, if_neg H34.out, if_neg H59.out, if_pos h5]
                    clear HWS HNB H39 H34 H59 h5
                    go_upto_region 24 with fail
                    have HW3 : Hid (LS w (wc.setCell ⟨L, o + 1, none⟩ (.int .i64 (pos + 2 : Nat))) L o (pos + 2)) := LS.move HW2.out _
                    rw [show ((pos : Int) + 2) = ((pos + 2 : Nat) : Int) from by omega]
                    generalize wc.setCell ⟨L, o + 1, none⟩ (.int .i64 ((pos + 2 : Nat) : Int)) = w3 at HW3 ⊢
                    clear c0 c1 f1 c2 HW2
                    obtain ⟨t0, t1, t2, t3, t4, tf⟩ := LS.tok HW3.out hlt
                    go_wp2
                    refine bodyPost_ret (v := tkV 8 0 ⟨#[58, 58]⟩ ⟨#[]⟩ 0) (by simp [results, Try.results32, go_sem, tkV, t0, t1, t2, t3, t4]) rfl ⟨by rw [HR.out], ?_⟩
                    rw [HR.out]
                    exact LM.of HL.out (LS.done HW3.out hlt _ _ _ _ _)
              · have HR : Hid (rd src mk md pos = (tkV 10 0 ⟨#[59]⟩ ⟨#[]⟩ 0, pos + 1, md)) := by
                  unfold Hid rd; rw [if_pos hlt2, if_neg (by rw [HWS.out]; simp), if_neg (by rw [HNB.out]; simp), if_neg H39.out, if_neg H34.out, if_pos (by simpa using h59)]
                clear HWS HNB H39 H34
                go_upto_region 21 with fail
                have HW3 : Hid (LS w (wc.setCell ⟨L, o + 1, none⟩ (.int .i64 (pos + 1 : Nat))) L o (pos + 1)) := LS.move HW2.out _
                rw [show ((pos : Int) + 1) = ((pos + 1 : Nat) : Int) from by omega]
                generalize wc.setCell ⟨L, o + 1, none⟩ (.int .i64 ((pos + 1 : Nat) : Int)) = w3 at HW3 ⊢
                clear c0 c1 f1 c2 HW2
                obtain ⟨t0, t1, t2, t3, t4, tf⟩ := LS.tok HW3.out hlt
                go_wp2
                refine bodyPost_ret (v := tkV 10 0 ⟨#[59]⟩ ⟨#[]⟩ 0) (by simp [results, Try.results32, go_sem, tkV, t0, t1, t2, t3, t4]) rfl ⟨by rw [HR.out], ?_⟩
                rw [HR.out]
                exact LM.of HL.out (LS.done HW3.out hlt _ _ _ _ _)
            · have HR : Hid (rd src mk md pos = (idTok src pos, qend src pos 34, md)) := by
                unfold Hid rd; rw [if_pos hlt2, if_neg (by rw [HWS.out]; simp), if_neg (by rw [HNB.out]; simp), if_neg H39.out, if_pos (by simpa using h34)]
              clear HWS HNB H39
              go_wp2_with fail
              refine (quoted_any L o src pos mk md 2 34 msgId _ hs hlt2 (LS.lex HL.out HW2.out)).mono ?_
              rintro e w3 ⟨rfl, hb3⟩
              have HW3 : Hid (LS w w3 L o (qend src pos 34)) := LS.call HW2.out hb3
              have hz3 := LS.size HW3.out
              clear c0 c1 f1 c2 HW2 hb3 h34
              obtain ⟨t0, t1, t2, t3, t4, tf⟩ := LS.tok HW3.out hlt
              have hne : w3.heap.size ≠ w.heap.size := by omega
              have hne' : w.heap.size ≠ w3.heap.size := by omega
              have hlt3 : w.heap.size < w3.heap.size := by omega
              rcases hq : qv 34 (src.data.toList.drop (pos + 1)) with _ | ⟨v, m⟩
              · have HI : Hid (idTok src pos = tkV 11 0 (src.extract pos src.size) msgId 0) := by unfold Hid idTok; rw [hq]
                rw [qtok_none 2 msgId hq]
                clear hq
                unfold tokV
                go_wp2
                refine bodyPost_ret (v := tkV 11 0 (src.extract pos src.size) msgId 0) (by simp [results, Try.results32, go_sem, tkV, t0, t1, t2, t3, t4, hlt3, size_setCell]) rfl ⟨by rw [HR.out, HI.out], ?_⟩
                rw [HR.out]
                refine LM.of HL.out (Below.alloc (LS.done HW3.out hlt _ _ _ _ _) (by simp only [size_setCell]; omega) _)
              · rw [qtok_some 2 msgId hq]
                by_cases hv : v = []
                · subst hv
                  have HI : Hid (idTok src pos = tkV 11 0 (src.extract pos (pos + 1 + m)) msgZero 0) := by unfold Hid idTok; rw [hq]; rfl
                  clear hq
                  rw [show str [] = ⟨#[]⟩ from rfl]
                  unfold tokV
                  go_wp2
                  refine bodyPost_ret (v := tkV 11 0 (src.extract pos (pos + 1 + m)) msgZero 0) (by simp [results, Try.results32, go_sem, tkV, t0, t1, t2, t3, t4, hlt3, size_setCell, msgZero]) rfl ⟨by rw [HR.out, HI.out], ?_⟩
                  rw [HR.out]
                  refine LM.of HL.out (Below.alloc (LS.done HW3.out hlt _ _ _ _ _) (by simp only [size_setCell]; omega) _)
                · have HI : Hid (idTok src pos = tkV 2 0 (src.extract pos (pos + 1 + m)) (str v) 0) := by unfold Hid idTok; rw [hq]; exact if_neg hv
                  have hsv : (str v).toList.isEmpty = false := by rw [ByteArray.toList_eq]; cases v with | nil => exact absurd rfl hv | cons a l => rfl
                  clear hq hv
                  unfold tokV
                  go_wp2
                  refine bodyPost_ret (v := tkV 2 0 (src.extract pos (pos + 1 + m)) (str v) 0) (by simp [results, Try.results32, go_sem, tkV, t0, t1, t2, t3, t4, hlt3, size_setCell]) rfl ⟨by rw [HR.out, HI.out], ?_⟩
                  rw [HR.out]
                  refine LM.of HL.out (Below.alloc (LS.done HW3.out hlt _ _ _ _ _) (by simp only [size_setCell]; omega) _)
          · have HR : Hid (rd src mk md pos = (qtok src pos 3 39 msgStr, qend src pos 39, md)) := by
              unfold Hid rd; rw [if_pos hlt2, if_neg (by rw [HWS.out]; simp), if_neg (by rw [HNB.out]; simp), if_pos (by simpa using h39)]
            clear HWS HNB
            go_wp2_with fail
            refine (quoted_any L o src pos mk md 3 39 msgStr _ hs hlt2 (LS.lex HL.out HW2.out)).mono ?_
            rintro e w3 ⟨rfl, hb3⟩
            have HW3 : Hid (LS w w3 L o (qend src pos 39)) := LS.call HW2.out hb3
            clear c0 c1 f1 c2 HW2 hb3 h39
            obtain ⟨k, tx, vl, hq⟩ := qtok_form src pos 3 39 msgStr
            rw [hq] at HR ⊢
            clear hq
            obtain ⟨t0, t1, t2, t3, t4, tf⟩ := LS.tok HW3.out hlt
            go_wp2
            refine bodyPost_ret (v := .agg #[.int .i64 k, .int .i64 0, .string tx, .string vl, .int .i64 0]) (by simp [results, Try.results32, go_sem, tkV, t0, t1, t2, t3, t4]) rfl ⟨by rw [HR.out], ?_⟩
            rw [HR.out]
            exact LM.of HL.out (LS.done HW3.out hlt _ _ _ _ _)
        · have HR : Hid (rd src mk md pos = (numTok src pos, numEnd src pos, md)) := by
            unfold Hid rd; rw [if_pos hlt2, if_neg (by rw [HWS.out]; simp), if_pos hnb]
          clear hnb HWS
          go_wp2_with fail
          refine (number_any L o src pos mk md _ hp hs (LS.lex HL.out HW2.out)).mono ?_
          rintro e w3 ⟨rfl, hb3⟩
          have HW3 : Hid (LS w w3 L o (numEnd src pos)) := LS.call HW2.out hb3
          clear c0 c1 f1 c2 HW2 hb3
          obtain ⟨k, tx, vl, hq⟩ := numTok_form src pos
          rw [hq] at HR ⊢
          clear hq
          obtain ⟨t0, t1, t2, t3, t4, tf⟩ := LS.tok HW3.out hlt
          go_wp2
          refine bodyPost_ret (v := .agg #[.int .i64 k, .int .i64 0, .string tx, .string vl, .int .i64 0]) (by simp [results, Try.results32, go_sem, tkV, t0, t1, t2, t3, t4]) rfl ⟨by rw [HR.out], ?_⟩
          rw [HR.out]
          exact LM.of HL.out (LS.done HW3.out hlt _ _ _ _ _)
    · have HR : Hid (rd src mk md pos = (tkV 1 0 (src.extract pos (run src wpB src.size pos)) (low (src.extract pos (run src wpB src.size pos))) 0, run src wpB src.size pos, md)) := by
        unfold Hid rd; rw [if_pos hlt2, if_pos hws]
      clear hws
      have hR0 := Run.start src wpB pos
      generalize run src wpB src.size pos = en at hR0 HR
      go_wp2_with fail
      go_loopg [54] src.size (fun g _ wr => ∃ j : Nat, pos ≤ j ∧ j ≤ src.size ∧ Run src wpB en g j ∧ LS w wr L o j)
      case atStart => exact ⟨pos, Nat.le_refl _, hp, hR0, HW2.out⟩
      case round =>
        clear hR0 c0 c1 f1 c2 HW2
        obtain ⟨j, hj1, hj2, hR, hW⟩ := hrel
        have HW : Hid (LS w wr L o j) := hW
        have HQ : Hid (Run src wpB en gk j) := hR
        clear hR hW
        obtain ⟨c0, c1, f1, c2⟩ := LS.all HL.out HW.out
        have hj0 : (0 : Int) ≤ (j : Int) := by omega
        have hpj : (pos : Int) ≤ (j : Int) := by omega
        have hjs : (j : Int) ≤ (src.size : Int) := by omega
        by_cases hjl : j < src.size
        · have hjl' : (j : Int) < (src.size : Int) := by omega
          have hd : decide ((j : Int) < (src.size : Int)) = true := decide_eq_true hjl'
          go_wp2_with fail
          go_quiet ((go_at_call 41; exact Calls.quiet_of_same (isWordPart_any _ _)))
          have HW3 : Hid (LS w (wr.drewN nq) L o j) := LS.drewN HW.out nq
          generalize wr.drewN nq = w3 at HW3 ⊢
          clear c0 c1 f1 c2 HW
          obtain ⟨c0, c1, f1, c2⟩ := LS.all HL.out HW3.out
          rw [← cb_at hjl]
          cases hwp : wpB (cb src j)
          · have HE : Hid (en = j) := HQ.out.stop (fun h => by rw [hwp] at h; exact absurd h.2 (by simp))
            clear hwp
            go_wp2_with fail
            go_quiet (fail)
            have HW4 : Hid (LS w (w3.drewN nq) L o j) := LS.drewN HW3.out nq
            generalize w3.drewN nq = w4 at HW4 ⊢
            clear c0 c1 f1 c2 HW3
            have hz : (src.extract pos j).size ≤ 1048576 := by rw [ByteArray.size_extract]; omega
            go_wp2_with fail
            refine (foldCase_any _ _ hz).mono ?_
            rintro e w5 ⟨rfl, hb5⟩
            have HW5 : Hid (LS w w5 L o j) := LS.quiet HW4.out hb5
            clear hb5 HW4
            obtain ⟨t0, t1, t2, t3, t4, tf⟩ := LS.tok HW5.out hlt
            go_wp2
            refine bodyPost_ret (v := tkV 1 0 (src.extract pos j) (low (src.extract pos j)) 0) (by simp [results, Try.results32, go_sem, tkV, t0, t1, t2, t3, t4]) rfl ⟨by rw [HR.out, HE.out], ?_⟩
            rw [HR.out, HE.out]
            exact LM.of HL.out (LS.done HW5.out hlt _ _ _ _ _)
          · obtain ⟨g', hg, hR'⟩ := HQ.out.go hjl hwp
            have HG : Hid (gk = g' + 1) := hg
            clear hg hwp
            go_wp2
            go_roundg g'
            case measure => rw [HG.out]; omega
            case rel => exact ⟨j + 1, by omega, by omega, hR', LS.move HW3.out _⟩
        · have HE : Hid (en = j) := HQ.out.stop (fun h => hjl h.1)
          have hd : decide ((j : Int) < (src.size : Int)) = false := decide_eq_false (by omega)
          have hjl' : ¬ (j : Int) < (src.size : Int) := by omega
          go_wp2_with fail
          go_quiet (fail)
          have HW3 : Hid (LS w (wr.drewN nq) L o j) := LS.drewN HW.out nq
          generalize wr.drewN nq = w3 at HW3 ⊢
          clear c0 c1 f1 c2 HW
          obtain ⟨c0, c1, f1, c2⟩ := LS.all HL.out HW3.out
          go_wp2_with fail
          go_quiet (fail)
          have HW4 : Hid (LS w (w3.drewN nq) L o j) := LS.drewN HW3.out nq
          generalize w3.drewN nq = w4 at HW4 ⊢
          clear c0 c1 f1 c2 HW3
          have hz : (src.extract pos j).size ≤ 1048576 := by rw [ByteArray.size_extract]; omega
          go_wp2_with fail
          refine (foldCase_any _ _ hz).mono ?_
          rintro e w5 ⟨rfl, hb5⟩
          have HW5 : Hid (LS w w5 L o j) := LS.quiet HW4.out hb5
          clear hb5 HW4
          obtain ⟨t0, t1, t2, t3, t4, tf⟩ := LS.tok HW5.out hlt
          go_wp2
          refine bodyPost_ret (v := tkV 1 0 (src.extract pos j) (low (src.extract pos j)) 0) (by simp [results, Try.results32, go_sem, tkV, t0, t1, t2, t3, t4]) rfl ⟨by rw [HR.out, HE.out], ?_⟩
          rw [HR.out, HE.out]
          exact LM.of HL.out (LS.done HW5.out hlt _ _ _ _ _)
  · have hlt' : (src.size : Int) ≤ (pos : Int) := by omega
    have HR : Hid (rd src mk md pos = _) := rd_end hlt2
    go_quiet (fail)
    have HW2 : Hid (LS w (w1.drewN nq) L o pos) := LS.drewN HW.out nq
    generalize w1.drewN nq = w2 at HW2 ⊢
    obtain ⟨t0, t1, t2, t3, t4, tf⟩ := LS.tok HW2.out hlt
    go_wp2
    refine bodyPost_ret (v := tkV 0 0 ⟨#[]⟩ ⟨#[]⟩ 0) (by simp [results, Try.results32, go_sem, tkV, t0, t1, t2, t3, t4]) rfl ⟨by rw [HR.out], ?_⟩
    rw [HR.out]
    exact LM.of HL.out (LS.done HW2.out hlt _ _ _ _ _)
end Go.Proofs.Qxb6604722a
