import Derived.Test.Qxb6605469aStep
set_option linter.unusedSimpArgs false
set_option linter.unusedVariables false
namespace Go.Proofs.Qxb6605469a
open Go.ChangeShapes Go.WideShapes Go.ChangeAt Go.RowKit
open Go.Maps

theorem own_shape {w : World} {base : Nat} {e : TypeId} {size : Nat} {v : Value} {n : Nat} {xs : List Value} (h : w.ownsRow base e size v n xs) : ∃ a cap, v = .slice a n cap := by
  rcases h.2 with ⟨h1, h2⟩ | ⟨g, cap, cur, h1, _⟩
  · exact ⟨none, 0, by rw [h1, h2]⟩
  · exact ⟨_, cap, h1⟩
theorem cell_one_new' (w : World) (v : Value) (t : TypeId) : ∀ j u, [v][j]? = some u → (w.drew.alloc (.cells #[v] t)).cell? ((⟨w.heap.size, 0, none⟩ : Addr).add j) = some u := cell_one_new w.drew v t
theorem Run.addedMsg {w : World} {gb : Nat} {O : Obj} {K : Nat} {bvl : Value} {lm cn : Int} {D : DataW Unit} {nm : Nat} {av : Value} {an : Nat} {keys : List ByteArray} {W : World} (h : Run w gb O K bvl lm cn D nm av an keys W) {W' : World} (hg : W.grownBy W' av.ownBlock) : MAt W' (w.heap.size + 2) bvl lm (w.heap.size + 1) av cn := by
  have hrow : ∀ k, av.ownBlock = some k → K ≤ k := fun k hk => (h.own.lt k hk).1
  have hK := h.hK
  exact h.msg.kept hg.size (hg.block _ h.msg.lt (fun e => by have := hrow _ e.symm; omega))

set_option maxRecDepth 20000 in
set_option maxHeartbeats 4000000 in
theorem newMessage_some (Q : Nat) (i f qt qc' pl ef ev : Int) (ed : Bool) (ad : Addr) (qn qc : Nat) (qs : List UInt8) (la : Option Addr) (n lc : Nat) (xs : List ByteArray) (size : Int) (w : World)
    (hQ : QAt w Q i f qt qc' pl ef ev ed (.slice (some ad) qn qc) (.slice la n lc)) (hq : Byts w (some ad) qn qs) (hl : Strs w la n xs) (hlc : n ≤ lc) (hqn : qn ≤ 1048576) (hn : n ≤ 4096) (ht : tot xs n ≤ 16384) :
    Calls Try.prog 24 #[.pointer (some ⟨Q, 0, none⟩), .int .i64 size] w fun e w' => e = .returned (.pointer (some ⟨w.heap.size + 2, 0, none⟩)) ∧
      ∃ gb cap O K nm av, Run w gb O K (.slice (some ⟨gb, 0, none⟩) (12 + qn) cap) (lim ed size) 1 (nmD xs (kp xs n) n) nm av (n - kp xs n) (kyL xs (kp xs n) n) w' ∧ Byts w' (some ⟨gb, 0, none⟩) (12 + qn) (List.replicate 12 0 ++ qs) ∧ 12 + qn ≤ cap := by
  have hmm := @run_makeMap Try.prog
  have hmk := hmk512
  have HB : Hid _ := begun Q i f qt qc' pl ef ev ed _ _ size w hQ
  have hnil := fun wx : World => Lib.run_eql_slice_nil (P := Try.prog) wx 23 5 (some ad) qn qc 0 0 Try.underlying23
  have hQl := hQ.lt
  have HQ3 : Hid _ := hQ.c3
  clear hQ
  go_enter Try.func24, Try.ntmps24
  go_upto_region 2 with fail
  rw [show w.heap.size + 1 + 1 = w.heap.size + 2 from rfl]
  generalize hW : ((w.alloc (.cells row512.toArray 5)).alloc (.map #[] 0)).alloc (MObj w.heap.size size) = W
  have HB1 : Hid (Begun w Q ed (.slice (some ad) qn qc) (.slice la n lc) size W) := by rw [← hW]; exact HB
  clear hW HB hmm hmk
  have c6 := HB1.out.q6
  go_upto_if 20 with fail
  go_cut [24] from 21 to 27 (fun _ wx => Begun w Q ed (.slice (some ad) qn qc) (.slice la n lc) (lim ed size) wx)
  case first =>
    cases ed
    · go_wp2
      go_meet
      exact HB1.out
    · have m1 := HB1.out.msg.c1
      have f1 := HB1.out.msg.fr 1
      go_wp2
      go_meet
      exact HB1.out.setLim hQl _
  case rest =>
    clear HB1 c6
    have HC : Hid (Begun w Q ed (.slice (some ad) qn qc) (.slice la n lc) (lim ed size) wc) := hcut
    obtain ⟨lm, hlm⟩ : ∃ lm, lm = lim ed size := ⟨_, rfl⟩
    rw [← hlm] at hcut HC
    have HLM : Hid (lm = lim ed size) := hlm
    clear hlm
    have c2 := hcut.q2
    obtain ⟨v', W', gb, cap, O, hrun, rfl, hcap, hMA, hR, hBy⟩ := hcut.append (hq.below (hcut.below) (either hq.2 id fun ⟨b, o, e, hb, _⟩ => ⟨b, o, e, hb⟩)) hqn 1
    have hrun' : (Builtin.append_ #[23, 23] 23 #[.slice (some ⟨w.heap.size, 0, none⟩) 12 512, .slice (some ad) qn qc]).run Try.prog wc.drew = .ok (.slice (some ⟨gb, 0, none⟩) (12 + qn) cap) W' := hrun
    have m0 := hcut.msg.c0
    have m0' := hMA.c0
    have f0' := hMA.fr 0
    have HR : Hid _ := hR
    have HY : Hid _ := hBy
    clear hcut hrun hMA hR hBy
    go_upto_region 6 with fail
    go_cut [43] from 34 to 45 (fun _ wx => Run w gb O W'.heap.size (.slice (some ⟨gb, 0, none⟩) (12 + qn) cap) lm 0 (.map []) 0 (.slice none 0 0) 0 [] wx)
    case first =>
      go_region_law (refine step_append_run rfl (.tmp 38) (.tmp 42) 23 rfl _ _ _ W' (by simp [Act.eval, Act.put]) (by simp [Act.eval, Act.put]) hrun' ?_)
      all_goals (try go_wp2_with fail)
      all_goals go_meet
      all_goals exact HR.out
    case rest =>
      clear HR m0 m0' f0' hrun' c2 HC hnil
      have m4 := hcut.msg.c4
      have f4 := hcut.msg.fr 4
      have HR1 : Hid _ := hcut.count 1
      clear hcut
      generalize W'.heap.size = K at *
      go_upto_region 8 with fail
      generalize wc.setCell ⟨w.heap.size + 2, 4, none⟩ (.int .u16 1) = W7 at HR1 ⊢
      clear m4 f4
      have c3 := (HR1.out.below.cell (p := ⟨Q, 3, none⟩) hQl).trans HQ3.out
      have hl7 : Strs W7 la n xs := hl.below HR1.out.below (either hl.2 id fun ⟨b, o, e, hb, _⟩ => ⟨b, o, e, hb⟩)
      go_upto_block 0 with fail
      go_cut [6] from 55 to 70 (fun x wx => x = .int .i64 (kp xs n) ∧ wx = W7)
      case first =>
        go_wp2_with fail
        go_loopw [6] (fun x wr => wr = W7 ∧ ∃ m : Nat, m ≤ n ∧ x = .int .i64 m ∧ kp xs n = kp xs m) (fun x _ => (intOf x).toNat)
        case atStart => exact ⟨rfl, n, Nat.le_refl _, rfl, rfl⟩
        case round =>
          obtain ⟨rfl, m, hm, rfl, hkp⟩ := hrel
          have HK : Hid (kp xs n = kp xs m) := hkp
          clear hkp
          cases m with
          | zero =>
            go_wp2
            go_meet
            exact ⟨by rw [HK.out]; rfl, rfl⟩
          | succ m =>
            obtain ⟨b, o, rfl, hck, hmem⟩ := hl7.at m (by omega)
            have HKm : Hid (kp xs (m + 1) = if dot (xs.getD m ByteArray.empty) then m + 1 else kp xs m) := rfl
            generalize xs.getD m ByteArray.empty = x at hck HKm
            have h0 : (0 : Int) < ((m + 1 : Nat) : Int) := by omega
            have hi1 : ((m + 1 : Nat) : Int) - 1 = (m : Int) := by omega
            have hi2 : (m : Int) < (n : Int) := by omega
            have hi3 : (0 : Int) ≤ (m : Int) := by omega
            clear hl hl7 hmem
            cases hd : dot x
            · rw [hd] at HKm
              have HK2 : Hid (kp xs n = kp xs m) := HK.out.trans HKm.out
              go_wp2_with (go_at_call 28; refine (contains_any x _).mono ?_; rintro e w' ⟨rfl, rfl⟩; rw [hd])
              go_roundw
              case rel => exact ⟨trivial, m, by omega, by go_num, HK2.out⟩
              case measure => simp [intOf]
            · rw [hd] at HKm
              have HK2 : Hid (kp xs n = m + 1) := HK.out.trans HKm.out
              go_wp2_with (go_at_call 28; refine (contains_any x _).mono ?_; rintro e w' ⟨rfl, rfl⟩; rw [hd])
              go_meet
              exact ⟨by rw [HK2.out]; go_num, rfl⟩
      case rest =>
        obtain ⟨rfl, rfl⟩ := hcut
        have hkn := kp_le xs n
        go_wp2_with fail
        refine (join_any la n lc xs _ hl7 hlc (by omega) (by omega)).mono ?_
        rintro e W8 ⟨rfl, hb8⟩
        have HR8 : Hid _ := HR1.out.grown hb8
        have hl8 : Strs W8 la n xs := hl7.below' hb8
        clear hb8 hl7 HR1 c3
        have c3 := (HR8.out.below.cell (p := ⟨Q, 3, none⟩) hQl).trans HQ3.out
        have HLw : Hid (Strs w la n xs ∧ xs.length = n) := ⟨hl, hl.len⟩
        clear hl HQ3 hq hl8
        go_wp2_with fail
        clear c3
        go_loopw [81, 8, 9] (fun i a f wr => ∃ k : Nat, k ≤ n ∧ i = .int .i64 k ∧ a = .int .i64 (12 + fr xs k : Nat) ∧ f = .int .i64 (fr xs k) ∧ ∃ nm av, nm ≤ k ∧ Run w gb O K (.slice (some ⟨gb, 0, none⟩) (12 + qn) cap) lm 1 (nmD xs (kp xs n) k) nm av (k - kp xs n) (kyL xs (kp xs n) k) wr) (fun i _ _ _ => n - (intOf i).toNat)
        case atStart => exact ⟨0, Nat.zero_le _, rfl, rfl, rfl, 0, _, Nat.le_refl _, by rw [Nat.zero_sub]; exact HR8.out⟩
        case round =>
          obtain ⟨k, hk, rfl, rfl, rfl, nm, av, hnm, hR⟩ := hrel
          have HR : Hid _ := hR
          have HW : Hid (Strs wr la n xs) := HLw.out.1.below hR.below (either HLw.out.1.2 id fun ⟨b, o, e, hb, _⟩ => ⟨b, o, e, hb⟩)
          clear hR
          have hlen := HLw.out.2
          clear HR8 HLw
          by_cases hlt : k < n
          · obtain ⟨b, o, rfl, hck, _⟩ := HW.out.at k hlt
            have HX : Hid (fr xs (k + 1) = fr xs k + ((xs.getD k ByteArray.empty).size + 1)) := rfl
            generalize xs.getD k ByteArray.empty = x at hck HX
            have hfr : fr xs k ≤ (key xs 0).size := (jn_drop xs k (by omega)).1
            have hfr2 : (fr xs k : Int) ≤ ((key xs 0).size : Int) := by omega
            have hfr3 : (0 : Int) ≤ (fr xs k : Int) := by omega
            have hfn : (key xs 0).size ≤ 20480 := by
              have := key_size (xs := xs) (i := 0) (by omega)
              rw [fr_tot xs xs.length, hlen] at this
              omega
            have hxs : x.size ≤ 20480 := by
              have h1 := HX.out
              have h2 := tot_mono xs (show k + 1 ≤ n by omega)
              rw [fr_tot xs (k + 1)] at h1
              omega
            by_cases hp : kp xs n ≤ k
            · have hpi : ((kp xs n : Nat) : Int) ≤ (k : Int) := by omega
              have m2 := HR.out.msg.c2
              have hks : (key xs k).size ≤ 20480 := by have := key_size (xs := xs) (i := k) (by omega); rw [fr_tot xs xs.length, hlen] at this; omega
              obtain ⟨W9, hrun, hn9, hg9⟩ := (HR.out.drewN 1).names.update law9 Try.underlying28 (by unfold maxLen; omega) (key := .string (key xs k)) (val := .int .i64 (12 + fr xs k : Nat)) (kl := kl xs k) (d := el xs k) (WideMaps.keyOf_string_mk Try.underlying9 (by unfold maxLen; omega)) (plainElem_int Try.underlying3 (WalkArith.wf_i64 (by omega)))
              have hsf : (key xs 0).extract (fr xs k) (key xs 0).size = key xs k := by
                apply bytes_ext
                rw [Lib.extract_to_end]
                exact (jn_drop xs k (by omega)).2
              have HRp : Hid (Run w gb O K (.slice (some ⟨gb, 0, none⟩) (12 + qn) cap) lm 1 (nmD xs (kp xs n) (k + 1)) (nm + 1) av (k - kp xs n) (kyL xs (kp xs n) k) W9) := (HR.out.drewN 1).put (by rw [nmD, if_pos hp]; exact hn9) hg9
              have hrun1 : (Instr.mapUpdate 28 (.map (some (w.heap.size + 1))) (.string (key xs k)) (.int .i64 (12 + (fr xs k : Int)))).run Try.prog wr.drew = .ok () W9 := by rw [show (12 + (fr xs k : Int)) = ((12 + fr xs k : Nat) : Int) by omega]; exact hrun
              clear hn9 hg9 hrun
              go_upto_region 17 with fail
              go_cut [92] from 89 to 96 (fun _ wx => wx = W9)
              case first =>
                go_region
                all_goals (try go_wp2_with fail)
                all_goals go_meet
                all_goals exact rfl
              case rest =>
                subst hcut
                clear hrun1 m2
                obtain ⟨aa, ac, rfl⟩ := own_shape HRp.out.own
                have m3 := HRp.out.msg.c3
                obtain ⟨i9, hi9, hz9, hs9, hb9⟩ := info_parts info9
                obtain ⟨av', W10, hrun, ho, hg, hnl⟩ := run_append_own (P := Try.prog) (wc.drew.alloc (.cells #[.string (key xs k)] 9)) K 24 24 9 i9 (.string ⟨#[]⟩) 1 16 Try.underlying24 hi9 hz9 hs9 hb9 rfl (by decide) _ _ _ (((HRp.out.drewN 1).alloc (.cells #[.string (key xs k)] 9)).own) ⟨wc.heap.size, 0, none⟩ 1 1 [.string (key xs k)] rfl (cell_one_new' _ _ _) (by intro u hu; simp at hu; subst hu; rfl) (by unfold maxLen; omega) (by omega) ((HRp.out.drewN 1).alloc (.cells #[.string (key xs k)] 9)).hKW
                have HRq : Hid _ := ((HRp.out.drewN 1).alloc (.cells #[.string (key xs k)] 9)).added (keys' := kyL xs (kp xs n) (k + 1)) (by rw [kyL, if_pos hp, List.map_append]; exact ho) hg
                obtain ⟨aa', ac', rfl⟩ := own_shape ho
                have hM := ((HRp.out.drewN 1).alloc (.cells #[.string (key xs k)] 9)).addedMsg hg
                have m3a := (HRp.out.alloc (.cells #[.string (key xs k)] 9)).msg.c3
                have m3' := hM.c3
                have f3' := hM.fr 3
                clear hM hg ho hnl
                go_upto_region 18 with fail
                go_cut [101] from 97 to 108 (fun _ wx => wx = W10.setCell ⟨w.heap.size + 2, 3, none⟩ (.slice aa' (k - kp xs n + 1) ac'))
                case first =>
                  go_region_law (refine step_append_run rfl (.tmp 101) (.tmp 105) 24 rfl _ _ _ W10 (by simp [Act.eval, Act.put]) (by simp [Act.eval, Act.put]) hrun ?_)
                  all_goals (try go_wp2_with fail)
                  all_goals go_meet
                  all_goals exact rfl
                case rest =>
                  clear hrun m3 m3a m3' f3'
                  subst hcut
                  rw [show k - kp xs n + 1 = k + 1 - kp xs n by omega] at HRq ⊢
                  generalize W10.setCell ⟨w.heap.size + 2, 3, none⟩ (.slice aa' (k + 1 - kp xs n) ac') = W11 at HRq ⊢
                  clear HRp HR HW hck
                  go_wp2
                  go_roundw
                  case rel => exact ⟨k + 1, by omega, by go_num, by rw [HX.out]; go_num, by rw [HX.out]; go_num, nm + 1, _, by omega, HRq.out⟩
                  case measure => simp [intOf]; omega
            · have hpi : ¬ ((kp xs n : Nat) : Int) ≤ (k : Int) := by omega
              have HRq : Hid (Run w gb O K (.slice (some ⟨gb, 0, none⟩) (12 + qn) cap) lm 1 (nmD xs (kp xs n) (k + 1)) nm av (k + 1 - kp xs n) (kyL xs (kp xs n) (k + 1)) wr) := by
                have := HR.out
                rw [show k - kp xs n = k + 1 - kp xs n by omega] at this
                rw [nmD, if_neg hp, kyL, if_neg hp]
                exact this
              clear HR HW
              go_wp2
              go_roundw
              case rel => exact ⟨k + 1, by omega, by go_num, by rw [HX.out]; go_num, by rw [HX.out]; go_num, nm, _, by omega, HRq.out⟩
              case measure => simp [intOf]; omega
          · have hkn : k = n := by omega
            subst hkn
            go_wp2
            go_ret
            exact ⟨rfl, gb, cap, O, K, nm, av, HLM.out ▸ HR.out, HY.out _ HR.out.buf, hcap⟩
end Go.Proofs.Qxb6605469a
