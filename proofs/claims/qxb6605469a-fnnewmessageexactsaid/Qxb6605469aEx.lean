import Derived.Test.Qxb6605469aZz2
import Derived.Maps.OwnOps
set_option linter.unusedSimpArgs false
set_option linter.unusedVariables false
namespace Go.Proofs.Qxb6605469a
open Go.ChangeShapes Go.WideShapes Go.ChangeAt Go.RowKit
open Go.Maps

theorem lim_true {size : Int} (h : (Lit.int .i64 size).wf = true) : wrap64 (lim true size + 11) = size := by
  have hb := bounds_i64 h
  simp only [lim, if_true]
  unfold wrap64
  omega
theorem eq29_one (w : World) : (Op.equalIn 10000 29 (.agg #[.int .u16 1, .int .u16 0, .int .u16 0, .int .u16 0]) (.agg #[.int .u16 1, .int .u16 0, .int .u16 0, .int .u16 0])).run Try.prog w = .ok true w := by kernel_rfl
theorem eq29_zero (w : World) : (Op.equalIn 10000 29 (.agg #[.int .u16 0, .int .u16 0, .int .u16 0, .int .u16 0]) (.agg #[.int .u16 0, .int .u16 0, .int .u16 0, .int .u16 0])).run Try.prog w = .ok true w := by kernel_rfl
theorem four_cells {W : World} {B : Nat} {a b c d : Value} {t : TypeId} (h : W.heap[B]? = some (.cells #[a, b, c, d] t (0, 0))) : W.cell? ⟨B, 0, none⟩ = some a ∧ W.cell? ⟨B, 1, none⟩ = some b ∧ W.cell? ⟨B, 2, none⟩ = some c ∧ W.cell? ⟨B, 3, none⟩ = some d := by
  refine ⟨?_, ?_, ?_, ?_⟩ <;> simp [World.cell?, h]

theorem at_val {xs : List ByteArray} {p t v : Nat} {c : Int} (hat : (nmD xs p t).atKey (Lit.string (key xs v).data.toList) (.lit (.int .i64 0)) = .lit (.int .i64 c)) (h : (nmD xs p t).atKey (kl xs v) (.lit (.int .i64 0)) = el xs v) : c = ((12 + fr xs v : Nat) : Int) := by
  rw [show kl xs v = Lit.string (key xs v).data.toList from rfl, hat] at h
  injection h with h
  injection h

/-- What the law's end reads. -/
structure Stuff (w0 : World) (s0 qn : Nat) (qs : List UInt8) (la : Option Addr) (k : Nat) (xs : List ByteArray) (gb mb nm : Nat) (aa : Option Addr) (W : World) : Prop where
  q : Byts W (some ⟨s0, 0, none⟩) qn qs
  l : Strs W la k xs
  b : Below w0.heap.size w0 W
  y : Byts W (some ⟨gb, 0, none⟩) (12 + qn) (List.replicate 12 0 ++ qs)
  m : W.ownsMap Try.prog 9 (plainElem (H := Unit) Try.prog 3) mb nm (nmD xs (kp xs k) k)
  a : Strs W aa (k - kp xs k) (kyL xs (kp xs k) k)
theorem Stuff.drewN {w0 : World} {s0 qn : Nat} {qs : List UInt8} {la : Option Addr} {k : Nat} {xs : List ByteArray} {gb mb nm : Nat} {aa : Option Addr} {W : World} (h : Stuff w0 s0 qn qs la k xs gb mb nm aa W) (m : Nat) : Stuff w0 s0 qn qs la k xs gb mb nm aa (W.drewN m) :=
  ⟨Row.drewN h.q m, Row.drewN h.l m, below_drewN h.b m, Row.drewN h.y m, map_drewN h.m m, Row.drewN h.a m⟩
theorem Byts.cell0 {W : World} {g n : Nat} {bs : List UInt8} (h : Byts W (some ⟨g, 0, none⟩) n bs) (j : Nat) (hj : j < n) : W.cell? ⟨g, j, none⟩ = some (.int .u8 ((bs.getD j 0).toNat : Int)) := by
  obtain ⟨b, o, e, hc⟩ := h.at j hj
  injection e with e; injection e with e1 e2 _; subst e1 e2
  rw [Nat.zero_add] at hc
  exact hc
theorem getD_after (qs : List UInt8) (j : Nat) : (List.replicate 12 (0 : UInt8) ++ qs).getD (12 + j) 0 = qs.getD j 0 := by
  rw [List.getD_eq_getElem?_getD, List.getElem?_append_right (by simp), List.getD_eq_getElem?_getD]; simp
theorem lbl_size {xs : List ByteArray} {j k : Nat} (h : j < k) : (lbl xs j).size ≤ tot xs k := by
  have := tot_mono xs (show j + 1 ≤ k from h)
  rw [tot] at this; omega

set_option maxRecDepth 20000 in
set_option maxHeartbeats 8000000 in
theorem exact_some (i f qt qc' pl ef ev : Int) (ed : Bool) (ad : Addr) (qn qk : Nat) (qs : List UInt8) (la : Option Addr) (n lc : Nat) (xs : List ByteArray) (size : Int) (w : World)
    (hq : Byts w (some ad) qn qs) (hl : Strs w la n xs) (hln : la = none → n = 0 ∧ lc = 0) (hqm : qn ≤ maxLen) (hnm : n ≤ maxLen) (hxm : ∀ x ∈ xs, x.size ≤ maxLen) (hsz : (Lit.int .i64 size).wf = true) :
    Calls Try.prog 3 #[.int .u16 i, .int .u16 f, .slice (some ad) qn qk, .slice la n lc, .int .u16 qt, .int .u16 qc', .bool ed, .int .u16 pl, .int .u16 ef, .int .u8 ev, .int .i64 size] w fun e w' => e = .returned (.bool true) ∧ Below w.heap.size w w' := by
  have HZ := zzBytes_any i f qt qc' pl ef ev size ed (some ad) qn qk la n lc xs w hl hqm hnm hxm
  unfold maxLen at hqm hnm
  by_cases h1 : 1048576 < qn
  · go_enter Try.func3, Try.ntmps3
    go_wp2_with fail
    refine HZ.mono ?_
    rintro e w' ⟨b, rfl, rfl⟩
    cases b
    · go_wp2; go_ret; exact ⟨rfl, Below.refl _ _⟩
    · go_wp2; go_ret; exact ⟨rfl, Below.refl _ _⟩
  by_cases h2 : 4096 < n
  · go_enter Try.func3, Try.ntmps3
    go_wp2_with fail
    refine HZ.mono ?_
    rintro e w' ⟨b, rfl, rfl⟩
    cases b
    · go_wp2; go_ret; exact ⟨rfl, Below.refl _ _⟩
    · go_wp2; go_ret; exact ⟨rfl, Below.refl _ _⟩
  go_enter Try.func3, Try.ntmps3
  go_wp2_with fail
  refine HZ.mono ?_
  rintro e w' ⟨b, rfl, rfl⟩
  clear HZ
  cases b
  · go_wp2; go_ret; exact ⟨rfl, Below.refl _ _⟩
  go_wp2_with fail
  have HQ : Hid (Byts w' (some ad) qn qs) := hq
  have HL : Hid (Strs w' la n xs) := hl
  have HX : Hid (∀ x ∈ xs, x.size ≤ maxLen) := hxm
  clear hq hl hxm
  go_loopw [24, 23] (fun x t wr => wr = w' ∧ ∃ k : Nat, k ≤ n ∧ x = .int .i64 k ∧ t = .int .i64 (tot xs k) ∧ tot xs k ≤ k * 16384) (fun x _ _ => n - (intOf x).toNat)
  case atStart => exact ⟨rfl, 0, Nat.zero_le _, rfl, rfl, Nat.zero_le _⟩
  case round =>
    obtain ⟨rfl, k, hk, rfl, rfl, htk⟩ := hrel
    by_cases hlt : k < n
    · obtain ⟨b, o, rfl, hck, hmem⟩ := HL.out.at k hlt
      have hxs := HX.out _ hmem
      have HT : Hid (tot xs (k + 1) = tot xs k + (xs.getD k ByteArray.empty).size) := rfl
      unfold maxLen at hxs
      generalize xs.getD k ByteArray.empty = x at hck hxs HT
      clear hmem
      by_cases c1 : 16384 < x.size
      · go_wp2
        go_ret
        exact ⟨rfl, Below.refl _ _⟩
      go_wp2
      go_roundw
      case rel => exact ⟨trivial, k + 1, by omega, by go_num, by rw [HT.out]; go_num, by rw [HT.out]; omega⟩
      case measure => simp [intOf]; omega
    · obtain rfl : k = n := by omega
      clear HX hlt
      by_cases c1 : 16384 < tot xs k
      · go_wp2
        go_ret
        exact ⟨rfl, Below.refl _ _⟩
      by_cases c2 : 1048576 < qn + 16 * k + tot xs k
      · go_wp2
        go_ret
        exact ⟨rfl, Below.refl _ _⟩
      go_wp2_with fail
      refine (copyBytes_some ad qn qk qs _ (by omega) HQ.out).mono ?_
      rintro e W1 ⟨rfl, hb1, hg1⟩
      have HQ1 : Hid (Byts W1 (some ⟨wr.heap.size, 0, none⟩) qn qs) := by
        have := Row.ofCells hg1
        rw [HQ.out.1] at this
        exact this
      have HL1 : Hid (Strs W1 la k xs) := Row.below' HL.out hb1
      have HB1 : Hid (Below wr.heap.size wr W1) := hb1
      have hs1 : wr.heap.size < W1.heap.size := (Array.getElem?_eq_some_iff.1 hg1).1
      generalize wr.heap.size = s0 at HQ1 hs1 ⊢
      clear hb1 hg1 HQ HL
      go_wp2_with fail
      refine (copyStrings_any la k lc xs W1 (by omega) HL1.out hln).mono ?_
      rintro e W2 ⟨la', rfl, hb2, hl2, hn2, hlo⟩
      have HQ2 : Hid (Byts W2 (some ⟨s0, 0, none⟩) qn qs) := Row.below' HQ1.out hb2
      have HL2 : Hid (Strs W2 la' k xs) := hl2
      have HB2 : Hid (Below wr.heap.size wr W2) := HB1.out.trans (hb2.mono HB1.out.size)
      have hs2 : s0 < W2.heap.size := Nat.lt_of_lt_of_le hs1 hb2.size
      clear hb2 hl2 hlo HQ1 HL1 HB1 hs1
      go_wp2_with fail
      refine (zzNew_some i f qt qc' pl ef ev ed ⟨s0, 0, none⟩ qn qn qs la' k k xs size W2 HQ2.out HL2.out (Nat.le_refl _) (by omega) (by omega) (by omega)).mono ?_
      rintro e W3 ⟨gb, cap, mb, nm, aa, ac, rfl, hb3, hY, hM, hA, _⟩
      have HQ3 : Hid (Byts W3 (some ⟨s0, 0, none⟩) qn qs) := Row.below' HQ2.out hb3
      have HL3 : Hid (Strs W3 la' k xs) := Row.below' HL2.out hb3
      have HB3 : Hid (Below wr.heap.size wr W3) := HB2.out.trans (hb3.mono HB2.out.size)
      have HY3 : Hid (Byts W3 (some ⟨gb, 0, none⟩) (12 + qn) (List.replicate 12 0 ++ qs)) := hY
      have HM3 : Hid (W3.ownsMap Try.prog 9 (plainElem (H := Unit) Try.prog 3) mb nm (nmD xs (kp xs k) k)) := hM
      have HA3 : Hid (Strs W3 aa (k - kp xs k) (kyL xs (kp xs k) k)) := hA
      have hlen : xs.length = k := HL2.out.len
      clear hb3 hY hM hA HQ2 HL2 HB2 hs2
      go_upto_region 21 with fail
      have hb4 : Below W3.heap.size W3 (W3.alloc (.cells #[.int .u16 1, .int .u16 0, .int .u16 0, .int .u16 0] 29)) := (Below.refl _ _).alloc (Nat.le_refl _) _
      have HQ4 : Hid (Byts _ (some ⟨s0, 0, none⟩) qn qs) := Row.below' HQ3.out hb4
      have HL4 : Hid (Strs _ la' k xs) := Row.below' HL3.out hb4
      have HB4 : Hid (Below wr.heap.size wr _) := HB3.out.trans (hb4.mono HB3.out.size)
      have HY4 : Hid (Byts _ (some ⟨gb, 0, none⟩) (12 + qn) (List.replicate 12 0 ++ qs)) := Row.below' HY3.out hb4
      have HM4 : Hid (World.ownsMap _ Try.prog 9 (plainElem (H := Unit) Try.prog 3) mb nm (nmD xs (kp xs k) k)) := HM3.out.alloc (.cells #[.int .u16 1, .int .u16 0, .int .u16 0, .int .u16 0] 29)
      have HA4 : Hid (Strs _ aa (k - kp xs k) (kyL xs (kp xs k) k)) := Row.below' HA3.out hb4
      have HC4 : Hid _ := heap_alloc_new W3 (.cells #[.int .u16 1, .int .u16 0, .int .u16 0, .int .u16 0] 29)
      generalize W3.alloc (.cells #[.int .u16 1, .int .u16 0, .int .u16 0, .int .u16 0] 29) = W4 at HQ4 HL4 HB4 HY4 HM4 HA4 HC4 ⊢
      generalize W3.heap.size = Bc at HC4 ⊢
      clear hb4 HQ3 HL3 HB3 HY3 HM3 HA3
      have HLT : Hid (ed = true → wrap64 (lim ed size + 11) = size) := fun e => by subst e; exact lim_true hsz
      have HLF : Hid (ed = false → lim ed size = size) := fun e => by subst e; rfl
      generalize lim ed size = L at HLT HLF ⊢
      go_upto_if 118 with fail
      go_cut [119] from 118 to 125 (fun _ wx => wx = W4)
      case first =>
        cases ed
        · have e1 := HLF.out rfl
          subst e1
          go_wp2
          go_meet
          exact rfl
        · have e1 := HLT.out rfl
          have e2 : (wrap64 (L + 11) != size) = false := by rw [e1]; simp
          go_wp2
          go_meet
          exact rfl
      case rest =>
        subst hcut
        clear HLT HLF
        have hnil := fun wx : World => Lib.run_eql_slice_nil (P := Try.prog) wx 23 5 (some ⟨s0, 0, none⟩) qn qn 0 0 Try.underlying23
        obtain ⟨d0, d1, d2, d3⟩ := four_cells HC4.out
        have heq := eq29_one
        clear HC4
        go_wp2_with fail
        clear d0 d1 d2 d3 hnil heq
        go_loopw [34] (fun x wx => wx = wc ∧ ∃ j : Nat, j ≤ 12 ∧ x = .int .i64 j) (fun x _ => 12 - (intOf x).toNat)
        case atStart => exact ⟨rfl, 0, Nat.zero_le _, rfl⟩
        case round =>
          obtain ⟨rfl, j, hj, rfl⟩ := hrel
          by_cases hj12 : j < 12
          · obtain ⟨b, o, e, hc⟩ := HY4.out.at j (by omega)
            injection e with e; injection e with e1 e2 _; subst e1 e2
            have e0 : (List.replicate 12 (0 : UInt8) ++ qs).getD j 0 = 0 := by
              rw [List.getD_eq_getElem?_getD, List.getElem?_append_left (by simpa using hj12), List.getElem?_replicate, if_pos hj12]; rfl
            rw [e0, Nat.zero_add] at hc
            have hc' : World.cell? _ ⟨gb, j, none⟩ = some (.int .u8 0) := hc
            have hjq : (j : Int) < ((12 + qn : Nat) : Int) := by omega
            have hjq' : (j : Int) < 12 + (qn : Int) := by omega
            clear hc e0
            go_wp2
            go_roundw
            case rel => exact ⟨trivial, j + 1, by omega, by go_num⟩
            case measure => simp [intOf]; omega
          · have HS : Hid (Stuff _ s0 qn qs la' k xs gb mb nm aa wr) := ⟨HQ4.out, HL4.out, HB4.out, HY4.out, HM4.out, HA4.out⟩
            clear HQ4 HL4 HB4 HY4 HM4 HA4
            go_wp2_with fail
            go_loopw [35] (fun x wx => Stuff _ s0 qn qs la' k xs gb mb nm aa wx ∧ ∃ j : Nat, j ≤ qn ∧ x = .int .i64 j) (fun x _ => qn - (intOf x).toNat)
            case atStart => exact ⟨HS.out, 0, Nat.zero_le _, rfl⟩
            case round =>
              clear HS
              obtain ⟨hS, j, hj, rfl⟩ := hrel
              have HS : Hid (Stuff _ s0 qn qs la' k xs gb mb nm aa wr) := hS
              clear hS
              by_cases hjq : j < qn
              · have e1 := HS.out.y.cell0 (12 + j) (by omega)
                have e2 := HS.out.q.cell0 j hjq
                rw [getD_after] at e1
                generalize (qs.getD j 0).toNat = v at e1 e2
                have g1 : (12 : Int) + (j : Int) < 12 + (qn : Int) := by omega
                have g2 : (0 : Int) ≤ 12 + (j : Int) := by omega
                have g3 : (j : Int) < (qn : Int) := by omega
                have g4 : (0 : Int) ≤ (j : Int) := by omega
                have g5 : (12 + (j : Int)).toNat = 12 + j := by omega
                have g6 : IntKind.i64.wrap (12 + (j : Int)) = 12 + (j : Int) := by rw [IntKind.wrap_i64]; omega
                go_upto_region 47 with fail
                go_quiet (fail)
                go_wp2
                go_roundw
                case rel => exact ⟨HS.out.drewN _, j + 1, by omega, by go_num⟩
                case measure => simp [intOf]; omega
              · go_wp2_with fail
                go_loopw [38, 37] (fun x y wx => wx = wr ∧ ∃ t : Nat, t ≤ k ∧ x = .int .i64 t ∧ y = .int .i64 (kp xs t)) (fun x _ _ => k - (intOf x).toNat)
                case atStart => exact ⟨rfl, 0, Nat.zero_le _, rfl, rfl⟩
                case round =>
                  obtain ⟨rfl, t, ht, rfl, rfl⟩ := hrel
                  by_cases htk' : t < k
                  · obtain ⟨b, o, rfl, hck, _⟩ := HS.out.l.at t htk'
                    have hsx : (xs.getD t ByteArray.empty).size ≤ tot xs k := lbl_size htk'
                    have HKm : Hid (kp xs (t + 1) = if dot (xs.getD t ByteArray.empty) then t + 1 else kp xs t) := rfl
                    have hkt := kp_le xs t
                    generalize xs.getD t ByteArray.empty = x at hck HKm hsx
                    cases hd : dot x
                    · rw [hd] at HKm
                      go_wp2_with (go_at_call 12; refine (hasDot_any x _ (by omega)).mono ?_; rintro e w' ⟨rfl, rfl⟩; rw [hd])
                      go_roundw
                      case rel => exact ⟨trivial, t + 1, by omega, by go_num, by rw [HKm.out]; rfl⟩
                      case measure => simp [intOf]; omega
                    · rw [hd] at HKm
                      go_wp2_with (go_at_call 12; refine (hasDot_any x _ (by omega)).mono ?_; rintro e w' ⟨rfl, rfl⟩; rw [hd])
                      go_roundw
                      case rel => exact ⟨trivial, t + 1, by omega, by go_num, by rw [HKm.out]; go_num⟩
                      case measure => simp [intOf]; omega
                  · obtain rfl : t = k := by omega
                    have hkt := kp_le xs t
                    have hlm := HS.out.m.len Try.underlying28 3
                    rw [nmD_size xs _ t (by omega)] at hlm
                    have hne : ((((t - kp xs t : Nat) : Int)) != (t : Int) - (kp xs t : Int)) = false := by simp; omega
                    by_cases hkk : t = kp xs t
                    · have hkk' : ((t : Int) == (kp xs t : Int)) = true := beq_iff_eq.2 (by omega)
                      clear hkk
                      go_wp2
                      go_ret
                      exact ⟨rfl, HS.out.b⟩
                    · have hkk' : ((t : Int) == (kp xs t : Int)) = false := by simpa using (by omega : ¬ (t : Int) = (kp xs t : Int))
                      go_wp2_with fail
                      clear hlm hne
                      go_loopw [41, 40] (fun x y wx => wx = wr ∧ ∃ u : Nat, kp xs t ≤ u ∧ u ≤ t ∧ x = .int .i64 ((u : Int) - 1) ∧ y = .string (key xs u)) (fun x _ _ => (intOf x + 1).toNat)
                      case atStart => exact ⟨rfl, t, hkt, Nat.le_refl _, rfl, by rw [← hlen, key_end]⟩
                      case round =>
                        obtain ⟨rfl, u, hu1, hu2, rfl, rfl⟩ := hrel
                        by_cases hu : kp xs t < u
                        · obtain ⟨v, rfl⟩ : ∃ v, u = v + 1 := ⟨u - 1, by omega⟩
                          have e1 : ((v + 1 : Nat) : Int) - 1 = (v : Int) := by omega
                          rw [e1]
                          clear e1
                          obtain ⟨b, o, rfl, hck, _⟩ := HS.out.l.at v (by omega)
                          have hga : (kp xs t : Int) ≤ (v : Int) := by omega
                          have hgv : (v : Int) < (t : Int) := by omega
                          have hgv0 : (0 : Int) ≤ (v : Int) := by omega
                          go_upto_if 244 with fail
                          go_cut [40] from 245 to 255 (fun s wx => s = .string (key xs v) ∧ wx = wr)
                          case first =>
                            by_cases hv : v + 1 = t
                            · have hb : ((v : Int) == (t : Int) - 1) = true := beq_iff_eq.2 (by omega)
                              have hkl : key xs v = xs.getD v ByteArray.empty := key_last (by omega)
                              generalize xs.getD v ByteArray.empty = x at hck hkl
                              go_wp2
                              go_meet
                              exact ⟨by rw [hkl], rfl⟩
                            · have hb : ((v : Int) == (t : Int) - 1) = false := beq_eq_false_iff_ne.2 (by omega)
                              have hkl : (xs.getD v ByteArray.empty) ++ ⟨#[46]⟩ ++ key xs (v + 1) = key xs v := key_step (by omega)
                              have hsx : (xs.getD v ByteArray.empty).size ≤ tot xs t := lbl_size (by omega)
                              have hks : (key xs (v + 1)).size ≤ 20480 := by have := key_size (xs := xs) (i := v + 1) (by omega); rw [fr_tot xs xs.length, hlen] at this; omega
                              generalize xs.getD v ByteArray.empty = x at hck hkl hsx
                              have hs1 : x.size + 1 ≤ 9223372036854775807 := by omega
                              have hs2 : x.size + 1 + (key xs (v + 1)).size ≤ 9223372036854775807 := by omega
                              go_wp2
                              go_meet
                              exact ⟨by rw [← hkl], rfl⟩
                          case rest =>
                            obtain ⟨rfl, rfl⟩ := hcut
                            clear hck
                            have hvl : v < xs.length := by omega
                            have hks := key_size (xs := xs) (i := v) hvl
                            rw [fr_tot xs xs.length, hlen] at hks
                            have hat0 := nmD_at xs (kp xs t) (.lit (.int .i64 0)) t v (by omega) (by omega) (by omega)
                            have HAT : Hid _ := hat0.1
                            have hhas := hat0.2
                            clear hat0
                            obtain ⟨b2, o2, e2, hca, _⟩ := HS.out.a.at (v - kp xs t) (by omega)
                            subst e2
                            have hky : (kyL xs (kp xs t) t).getD (v - kp xs t) ByteArray.empty = key xs v := by rw [List.getD_eq_getElem?_getD, kyL_at xs (kp xs t) t v (by omega) (by omega)]; rfl
                            rw [hky] at hca
                            clear hky
                            have i1 : (v : Int) - (kp xs t : Int) < ((t - kp xs t : Nat) : Int) := by omega
                            have i2 : (0 : Int) ≤ (v : Int) - (kp xs t : Int) := by omega
                            have i3 : ((v : Int) - (kp xs t : Int)).toNat = v - kp xs t := by omega
                            go_wp2_with (at_lookup; refine wpList_lookup_own_ok_int _ rfl _ _ 28 rfl 9 3 .i64 law9 Try.underlying28 Try.underlying3 (zero3 _) mb nm _ rfl HS.out.m _ _ rfl (WideMaps.keyOf_string_mk Try.underlying9 (s := key xs v) (by unfold maxLen; omega)) ?_; intro c hat hwc; have hcb : (c != 12 + ((tot xs t : Int) + (t : Int) - 1) - ((key xs v).size : Int)) = false := by (have hcv := at_val hat HAT.out; rw [hcv]; simp; omega))
                            go_roundw
                            case rel => exact ⟨trivial, v, by omega, by omega, rfl, rfl⟩
                            case measure => simp [intOf]
                        · have hg : ¬ (kp xs t : Int) ≤ (u : Int) - 1 := by omega
                          go_wp2
                          go_ret
                          exact ⟨rfl, HS.out.b⟩
end Go.Proofs.Qxb6605469a
