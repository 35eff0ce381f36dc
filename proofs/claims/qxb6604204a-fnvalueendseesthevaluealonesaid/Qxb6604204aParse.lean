import Derived.Test.Qxb6604204aState
namespace Go.Proofs.Qxb6604204a
open Go.ChangeShapes Go.WideShapes Go.ChangeAt Go.RowKit
open Pl

theorem info34 : (Try.prog.info? 34).map (fun i => (i.zero, i.size, i.bytes)) = some (some (.agg #[.int .i64 0, .bool false]), 2, 16) := by kernel_rfl

def Fin' (d : Nat → Int) (n B : Nat) (w : World) (e : Ending) (w' : World) : Prop :=
  Below B w w' ∧ (e = .returned (.tuple #[.slice none 0 0, .bool false]) ∨ ∃ E : Nat → Int, e = .returned (.tuple #[.slice (some ⟨B, 0, none⟩) n n, .bool true]) ∧ w'.rowIs B 3 n (fun j => .int .i64 (E j)) ∧ EndsOk d n n E)

theorem row_step {wr : World} {B n k : Nat} (hrow : wr.rowIs B 3 n (fun j => .int .i64 (if j < k then -1 else 0))) : (wr.setCell ⟨B, k, none⟩ (.int .i64 (-1))).rowIs B 3 n (fun j => .int .i64 (if j < k + 1 then -1 else 0)) :=
  (hrow.set k (.int .i64 (-1))).congr (fun j _ => by
    by_cases e : j = k
    · subst e; simp
    · by_cases e2 : j < k
      · simp [e, e2, Nat.lt_succ_of_lt e2]
      · have : ¬ j < k + 1 := by omega
        simp [e, e2, this])

theorem row_full {wr : World} {B n k : Nat} (hrow : wr.rowIs B 3 n (fun j => .int .i64 (if j < k then -1 else 0))) (hk : n ≤ k) : wr.rowIs B 3 n (fun j => .int .i64 ((fun _ => -1 : Nat → Int) j)) :=
  hrow.congr (fun i hi => by
    have : i < k := by omega
    simp [this])

theorem StrTo.gt {d : Nat → Int} {n p e : Nat} (h : StrTo d n p e) : p < e := by obtain ⟨q, rfl, h⟩ := h; have := h.2.2.1; omega

theorem two_new (w : World) (x y : Value) (t : TypeId) : ∀ j u, [x, y][j]? = some u → (w.alloc (.cells #[x, y] t)).cell? ((⟨w.heap.size, 0, none⟩ : Addr).add j) = some u := by
  intro j u hj
  match j, hj with
  | 0, hj => simp at hj; subst hj; simp [Addr.add]
  | 1, hj => simp at hj; subst hj; simp [Addr.add]
theorem two_one (x y : Value) (hx : x.oneCell' = true) (hy : y.oneCell' = true) : ∀ u ∈ [x, y], u.oneCell' = true := by
  intro u hu
  simp at hu
  rcases hu with rfl | rfl
  · exact hx
  · exact hy
theorem Mem.push' {w wr w1 : World} {B n : Nat} {fs : List (Nat × Bool)} {v v' : Value} {E : Nat → Int} (h : Mem w wr B n fs v E) (p : Nat) (b : Bool)
    (hown : w1.ownsRow (B + 1) 34 2 v' (fs.length + 1) (frCells fs ++ [.int .i64 p, .bool b])) (hg : wr.grownBy w1 v.ownBlock) : ∃ a cap, v' = .slice a (fs.length + 1) cap ∧ Mem w w1 B n (fs ++ [(p, b)]) (.slice a (fs.length + 1) cap) E := by
  have hM := h.push p b hown hg
  obtain ⟨a, cap, hv⟩ := hM.shape
  rw [List.length_append, List.length_singleton] at hv
  exact ⟨a, cap, hv, hv ▸ hM⟩

theorem nil_or_snoc (fs : List (Nat × Bool)) : fs = [] ∨ ∃ fs3 s0 b0, fs = fs3 ++ [(s0, b0)] := by
  rcases List.eq_nil_or_concat fs with h | ⟨l, f, h⟩
  · exact .inl h
  · exact .inr ⟨l, f.1, f.2, by rw [h, List.concat_eq_append]⟩

set_option maxRecDepth 100000 in
set_option maxHeartbeats 4000000 in
theorem jsonEnds_any (b off n c : Nat) (d : Nat → Int) (w : World) (hn : n ≤ 1048576) (hb : Bytes w b off n d) (hB : b < w.heap.size) :
    Calls Try.prog 15 #[.slice (some ⟨b, off, none⟩) n c] w fun e w' => Fin' d n w.heap.size w e w' := by
  obtain ⟨i0, hi, hz0, hz1, hz2⟩ := info_parts info34
  have hmk := run_make_row' (P := Try.prog) 28 3 (.int .i64 0) 8 Try.underlying28 info3 rfl .i64 .i64 n (by omega) (by omega)
  go_enter Try.func15, Try.ntmps15
  go_wp2
  clear hmk
  go_loopg [5] n (fun g i wr => ∃ k : Nat, k + g = n ∧ i = .int .i64 k ∧ Below w.heap.size w wr ∧ wr.rowIs w.heap.size 3 n (fun j => .int .i64 (if j < k then -1 else 0)))
  case atStart => exact ⟨0, by omega, rfl, (Below.refl _ _).alloc (Nat.le_refl _) _, (World.rowIs_made w (.int .i64 0) n 3).congr (fun i _ => by simp)⟩
  case round =>
    obtain ⟨k, hk, rfl, hbel, hrow⟩ := hrel
    by_cases hlt : k < n
    · have hcr := hrow.cell hlt
      have hfr := hrow.frozen k
      go_wp2
      go_roundg (gk - 1)
      case measure => omega
      case rel => exact ⟨k + 1, by omega, by go_num, hbel.setCell (Nat.le_refl _) _, row_step hrow⟩
    · have hrow' := row_full hrow (by omega)
      clear hrow
      go_wp2_with fail
      refine (skipWS_any b off n c d 0 _ hn (Nat.zero_le _) (hb.below hbel hB)).mono ?_
      rintro e w' ⟨⟨q0, rfl, hq0⟩, rfl⟩
      have hM : Mem w w' w.heap.size n [] (.slice none 0 0) (fun _ => -1) := ⟨hbel, hrow', World.ownsRow_nil _ _ _ _⟩
      have hKn : Know d n q0 n [] (fun _ => -1) := ⟨Frames.nil _ _ _, EndsOk.start _ _ _ _ (fun _ _ => rfl), Nat.zero_le _, hq0.2.1⟩
      clear hrow' hbel hq0 hk hlt
      go_wp2_with fail
      go_loopg [6, 7] (n + 1 - q0) (fun g s p wr => ∃ (k : Nat) (fs : List (Nat × Bool)) (a : Option Addr) (cap : Nat) (E : Nat → Int), k + g = n + 1 ∧ p = .int .i64 k ∧ s = .slice a fs.length cap ∧ Mem w wr w.heap.size n fs s E ∧ Know d n k n fs E)
      case atStart => exact ⟨q0, [], none, 0, _, by have := hKn.le; omega, rfl, rfl, hM, hKn⟩
      case round =>
        clear hM hKn
        obtain ⟨k, fs, a, cap, E, hg, rfl, rfl, hM, hKn⟩ := hrel
        have HM : Hid (Mem w wr w.heap.size n fs (.slice a fs.length cap) E) := hM
        have hlen := hKn.len
        have hbw : Bytes wr b off n d := hM.bytes hb hB
        clear hM
        by_cases hkn : k < n
        rotate_left
        · go_wp2
          go_ret2
          exact ⟨HM.out.bel, .inl rfl⟩
        have hc := (hbw k hkn).1
        go_upto_region 11 with fail
        go_cut [44] from 31 to 43 (fun t wx => t = .bool (opensB (d k)) ∧ wr = wx)
        case first =>
          by_cases h123 : d k = 123
          · have h1 : (d k == 123) = true := by simp [h123]
            have h2 : opensB (d k) = true := by simp [opensB, h123]
            clear h123
            go_wp2
            go_meet
            case rel => exact ⟨by rw [h2], rfl⟩
          · have h1 : (d k == 123) = false := by simpa using h123
            have h2 : opensB (d k) = (d k == 91) := by simp [opensB, h1]
            have H2 : Hid (opensB (d k) = (d k == 91)) := h2
            clear h2
            go_wp2
            go_meet
            case rel => exact ⟨by rw [H2.out], rfl⟩
        case rest =>
          obtain ⟨rfl, rfl⟩ := hcut
          go_upto_if 44 with fail
          go_cut [6, 7] from 31 to 107 (fun s p wx => ∃ (k1 : Nat) (a1 : Option Addr) (cap1 : Nat) (E1 : Nat → Int), k < k1 ∧ p = .int .i64 k1 ∧ s = .slice a1 fs.length cap1 ∧ Mem w wx w.heap.size n fs s E1 ∧ Know d n k1 k1 fs E1)
          case first =>
            have hcr := HM.out.row.cell hkn
            have hfr := HM.out.row.frozen k
            cases ho : opensB (d k) with
            | true =>
              have hwb : (d k == 123) = true ∨ (d k == 123) = false := by cases (d k == 123) <;> simp
              rcases hwb with h1 | h1
              · go_wp2_with fail
                rw [show ((k : Int) + 1) = ((k + 1 : Nat) : Int) from by omega]
                refine (skipWS_any b off n c d (k + 1) _ hn (by omega) hbw).mono ?_
                rintro e w' ⟨⟨q, rfl, hq⟩, rfl⟩
                have hqk : k < q := hq.1
                have hqn : q ≤ n := hq.2.1
                have HQ : Hid (Skip d n (k + 1) q) := hq
                clear hq
                have hthree : (q < n ∧ (d q == 125) = true) ∨ (q < n ∧ (d q == 125) = false) ∨ ¬ q < n := by
                  by_cases hql : q < n
                  · cases hx : (d q == 125)
                    · exact .inr (.inl ⟨hql, rfl⟩)
                    · exact .inl ⟨hql, rfl⟩
                  · exact .inr (.inr hql)
                rcases hthree with ⟨hql, h2⟩ | hrest
                · have hcq := (hbw q hql).1
                  have H2 : Hid (closesB (d q) = true) := (by simp [closesB, h2] : closesB (d q) = true)
                  go_wp2
                  go_meet
                  case rel => exact ⟨q + 1, a, cap, _, by omega, by go_num, rfl, HM.out.set k _, hKn.empty hkn ho HQ.out hql H2.out⟩
                have hcq : q < n → w'.cell? ⟨b, off + q, none⟩ = some (.int .u8 (d q)) := fun h => (hbw q h).1
                rcases hrest with ⟨hql, h2⟩ | hql
                all_goals
                  have hcq' := hcq
                  try (replace hcq' := hcq hql)
                  clear hcq
                  go_wp2_with (at_builtin; refine wpList_append_own _ rfl _ _ 32 rfl (w.heap.size + 1) 34 i0 (.agg #[.int .i64 0, .bool false]) 2 16 Try.underlying32 hi hz0 hz1 hz2 rfl (by decide) _ _ _ rfl (HM.out.own.alloc _) ⟨w'.heap.size, 0, none⟩ 1 1 [.int .i64 k, .bool true] rfl rfl (two_new _ _ _ _) (two_one _ _ rfl rfl) (by unfold maxLen; omega) (by omega) (by have := HM.out.row.lt; simp; omega) ?_)
                  intro v' w1 hown' hgrow hnn
                  obtain ⟨a2, cap2, hv, hM2⟩ := (HM.out.alloc _).push' k true hown' hgrow
                  rw [hv]
                  clear hown' hgrow hnn hv v'
                  go_wp2_with fail
                  refine (afterKey_any b off n c w.heap.size d E q _ hn hqn (hM2.bytes hb hB) (by omega) hM2.row).mono ?_
                  rintro e w2 h
                  rcases h with ⟨rfl, hbel⟩ | ⟨p', s, rfl, hs, hp', rfl⟩
                  · go_wp2
                    go_ret2
                    exact ⟨hM2.bel.trans (hbel _ (Nat.le_refl _)), .inl rfl⟩
                  · have hp1 : q < p' := hp'.1
                    have hp2 : p' ≤ n := hp'.2.1
                    try (exfalso; omega)
                    all_goals
                      go_wp2
                      go_roundg (n + 1 - p')
                      case measure => omega
                      case rel => exact ⟨p', fs ++ [(k, true)], a2, cap2, _, by omega, rfl, by simp, hM2.set q s, (hKn.push hkn ho HQ.out true).key hs hp'⟩

              · go_wp2_with fail
                rw [show ((k : Int) + 1) = ((k + 1 : Nat) : Int) from by omega]
                refine (skipWS_any b off n c d (k + 1) _ hn (by omega) hbw).mono ?_
                rintro e w' ⟨⟨q, rfl, hq⟩, rfl⟩
                have hqk : k < q := hq.1
                have hqn : q ≤ n := hq.2.1
                have HQ : Hid (Skip d n (k + 1) q) := hq
                clear hq
                have hthree : (q < n ∧ (d q == 93) = true) ∨ (q < n ∧ (d q == 93) = false) ∨ ¬ q < n := by
                  by_cases hql : q < n
                  · cases hx : (d q == 93)
                    · exact .inr (.inl ⟨hql, rfl⟩)
                    · exact .inl ⟨hql, rfl⟩
                  · exact .inr (.inr hql)
                rcases hthree with ⟨hql, h2⟩ | hrest
                · have hcq := (hbw q hql).1
                  have H2 : Hid (closesB (d q) = true) := (by simp [closesB, h2] : closesB (d q) = true)
                  go_wp2
                  go_meet
                  case rel => exact ⟨q + 1, a, cap, _, by omega, by go_num, rfl, HM.out.set k _, hKn.empty hkn ho HQ.out hql H2.out⟩
                have hcq : q < n → w'.cell? ⟨b, off + q, none⟩ = some (.int .u8 (d q)) := fun h => (hbw q h).1
                rcases hrest with ⟨hql, h2⟩ | hql
                all_goals
                  have hcq' := hcq
                  try (replace hcq' := hcq hql)
                  clear hcq
                  go_wp2_with (at_builtin; refine wpList_append_own _ rfl _ _ 32 rfl (w.heap.size + 1) 34 i0 (.agg #[.int .i64 0, .bool false]) 2 16 Try.underlying32 hi hz0 hz1 hz2 rfl (by decide) _ _ _ rfl (HM.out.own.alloc _) ⟨w'.heap.size, 0, none⟩ 1 1 [.int .i64 k, .bool false] rfl rfl (two_new _ _ _ _) (two_one _ _ rfl rfl) (by unfold maxLen; omega) (by omega) (by have := HM.out.row.lt; simp; omega) ?_)
                  intro v' w1 hown' hgrow hnn
                  obtain ⟨a2, cap2, hv, hM2⟩ := (HM.out.alloc _).push' k false hown' hgrow
                  rw [hv]
                  clear hown' hgrow hnn hv v'
                  go_wp2
                  go_roundg (n + 1 - q)
                  case measure => omega
                  case rel => exact ⟨q, fs ++ [(k, false)], a2, cap2, _, by omega, rfl, by simp, hM2, hKn.push hkn ho HQ.out false⟩

            | false =>
              by_cases h34 : d k = 34
              · have h1 : (d k == 34) = true := by simp [h34]
                clear h34
                go_wp2_with fail
                refine (stringEnd_any b off n c d k _ hn (by omega) hbw).mono ?_
                rintro e w' ⟨h, rfl⟩
                rcases h with rfl | ⟨q, rfl, hq⟩
                · go_wp2
                  go_ret2
                  exact ⟨HM.out.bel, .inl rfl⟩
                · have hq1 : k < q := hq.gt
                  go_wp2
                  go_meet
                  case rel => exact ⟨q, a, cap, _, hq1, rfl, rfl, HM.out.set k q, hKn.string hq⟩
              · have h1 : (d k == 34) = false := by simpa using h34
                clear h34
                go_wp2_with fail
                refine (scalar_any b off n c d k _ hn hkn hbw).mono ?_
                rintro e w' ⟨h, m, rfl⟩
                rcases h with rfl | ⟨q, rfl, hq⟩
                · go_wp2
                  go_ret2
                  exact ⟨(HM.out.drewN m).bel, .inl rfl⟩
                · have hq1 : k < q := hq.1
                  go_wp2
                  go_meet
                  case rel => exact ⟨q, a, cap, _, hq1, rfl, rfl, (HM.out.drewN m).set k q, hKn.scalar hq⟩
          case rest =>
            obtain ⟨k1, a1, cap1, E1, hk1, rfl, rfl, hM1, hKn1⟩ := hcut
            have HM1 : Hid (Mem w wc w.heap.size n fs (.slice a1 fs.length cap1) E1) := hM1
            clear hM1 HM hKn hc hlen hbw
            go_wp2_with fail
            go_loopg [6, 7, 13] (n + 1 - k1) (fun g s p t wr => ∃ (k2 : Nat) (fs2 : List (Nat × Bool)) (a2 : Option Addr) (cap2 : Nat) (E2 : Nat → Int) (tb : Bool), k2 + g = n + 1 ∧ k < k2 ∧ p = .int .i64 k2 ∧ s = .slice a2 fs2.length cap2 ∧ t = .bool tb ∧ Mem w wr w.heap.size n fs2 s E2 ∧ Know d n k2 (if tb = true then n else k2) fs2 E2)
            case atStart => exact ⟨k1, fs, a1, cap1, E1, false, by have := hKn1.le; omega, hk1, rfl, rfl, rfl, HM1.out, hKn1⟩
            case round =>
              clear HM1 hKn1
              obtain ⟨k2, fs2, a2, cap2, E2, tb, hg2, hk2, rfl, rfl, rfl, hM, hKn⟩ := hrel
              have HM : Hid (Mem w wr w.heap.size n fs2 (.slice a2 fs2.length cap2) E2) := hM
              clear hM
              have hk2n : k2 ≤ n := hKn.le
              cases tb with
              | true =>
                simp only [if_true] at hKn
                go_wp2
                go_roundg (n + 1 - k2)
                case measure => omega
                case rel => exact ⟨k2, fs2, a2, cap2, E2, by omega, rfl, rfl, HM.out, hKn⟩
              | false =>
                simp only [Bool.false_eq_true, if_false] at hKn
                have hbw : Bytes wr b off n d := HM.out.bytes hb hB
                go_wp2_with fail
                refine (skipWS_any b off n c d k2 _ hn hk2n hbw).mono ?_
                rintro e w' ⟨⟨q, rfl, hq⟩, rfl⟩
                have hK3 := hKn.skip hq
                have hqk : k2 ≤ q := hq.1
                have hqn : q ≤ n := hq.2.1
                clear hKn hq
                rcases nil_or_snoc fs2 with rfl | ⟨fs3, s0, b0, rfl⟩
                · by_cases hqe : q = n
                  · have h1 : ((q : Int) != (n : Int)) = false := by simp; omega
                    have HE : Hid (q = n) := hqe
                    clear hqe
                    go_wp2
                    go_ret2
                    exact ⟨HM.out.bel, .inr ⟨E2, rfl, HM.out.row, (hK3.settle (x := n) (.inl HE.out)).ends⟩⟩
                  · have h1 : ((q : Int) != (n : Int)) = true := by simp; omega
                    go_wp2
                    go_ret2
                    exact ⟨HM.out.bel, .inl rfl⟩
                · obtain ⟨g, cap', hv, hc0, hc1, hcap, hM3⟩ := HM.out.top
                  have HM4 : Hid (Mem w w' w.heap.size n (fs3 ++ [(s0, b0)]) (.slice (some ⟨g, 0, none⟩) (fs3.length + 1) cap') E2) := by rw [hv] at HM; exact HM
                  have HM3 : Hid (Mem w w' w.heap.size n fs3 (.slice (some ⟨g, 0, none⟩) fs3.length cap') E2) := hM3
                  have hl3 : fs3.length + 1 ≤ q := by have := hK3.len; simp at this; omega
                  rw [hv]
                  clear hM3 HM hv
                  by_cases hql : q < n
                  rotate_left
                  · go_wp2
                    go_ret2
                    exact ⟨HM4.out.bel, .inl rfl⟩
                  have hcq := (hbw q hql).1
                  have hcq' := fun o => ((HM4.out.alloc o).bytes hb hB q hql).1
                  have hbB : b < w'.heap.size := by have := HM4.out.row.lt; omega
                  cases b0 with
                  | true =>
                    have hth : (d q == 44) = true ∨ ((d q == 44) = false ∧ (d q == 125) = true) ∨ ((d q == 44) = false ∧ (d q == 125) = false) := by
                      cases (d q == 44) <;> cases (d q == 125) <;> simp
                    rcases hth with h44 | ⟨h44, hcl⟩ | ⟨h44, hcl⟩
                    · have hK4 : Know d n (q + 1) n (fs3 ++ [(s0, true)]) E2 := (hK3.settle (x := n) (.inr (by simp [endsB, h44]))).adv (by omega) (by omega) (Adv.one hql (by rw [eq_of_beq h44]; decide))
                      go_wp2_with fail
                      rw [show ((q : Int) + 1) = ((q + 1 : Nat) : Int) from by omega]
                      refine (skipWS_any b off n c d (q + 1) _ hn (by omega) ((HM4.out.alloc _).bytes hb hB)).mono ?_
                      rintro e w1 ⟨⟨r, rfl, hr⟩, rfl⟩
                      have hK5 := hK4.adv hr.1 hr.2.1 hr.adv
                      have HK5 : Hid (Know d n r n (fs3 ++ [(s0, true)]) E2) := hK5
                      have hrq : q < r := hr.1
                      have hrn : r ≤ n := hr.2.1
                      clear hK4 hK5 hr
                      go_wp2_with fail
                      refine (afterKey_any b off n c w.heap.size d E2 r _ hn hrn ((HM4.out.alloc _).bytes hb hB) (by omega) (HM4.out.alloc _).row).mono ?_
                      rintro e w2 h
                      rcases h with ⟨rfl, hbel⟩ | ⟨p', s, rfl, hs, hp', rfl⟩
                      · go_wp2
                        go_ret2
                        exact ⟨(HM4.out.alloc _).bel.trans (hbel _ (Nat.le_refl _)), .inl rfl⟩
                      · have hp1 : r < p' := hp'.1
                        have hp2 : p' ≤ n := hp'.2.1
                        go_wp2
                        go_roundg (n + 1 - p')
                        case measure => omega
                        case rel => exact ⟨p', fs3 ++ [(s0, true)], some ⟨g, 0, none⟩, cap', _, true, by omega, by omega, rfl, by simp, rfl, (HM4.out.alloc _).set r s, HK5.out.key hs hp'⟩
                    · have hcl2 : closesB (d q) = true := by simp [closesB, hcl]
                      have hen2 : endsB (d q) = true := by simp [endsB, hcl]
                      obtain ⟨hs0, hK6⟩ := hK3.pop hql hcl2 hen2
                      have hcr := HM4.out.row.cell hs0
                      have hfr := HM4.out.row.frozen s0
                      have hcr' := fun o => (HM4.out.alloc o).row.cell hs0
                      have hfr' := fun o => (HM4.out.alloc o).row.frozen s0
                      have hBl := HM4.out.row.lt
                      clear hcl2 hen2
                      go_wp2
                      go_roundg (n + 1 - (q + 1))
                      case measure => omega
                      case rel => exact ⟨q + 1, fs3, _, cap', _, false, by omega, by omega, by go_num, rfl, rfl, (HM3.out.set s0 _).alloc _, hK6⟩
                    · go_wp2
                      go_ret2
                      exact ⟨(HM4.out.alloc _).bel, .inl rfl⟩
                  | false =>
                    have hth : (d q == 44) = true ∨ ((d q == 44) = false ∧ (d q == 93) = true) ∨ ((d q == 44) = false ∧ (d q == 93) = false) := by
                      cases (d q == 44) <;> cases (d q == 93) <;> simp
                    rcases hth with h44 | ⟨h44, hcl⟩ | ⟨h44, hcl⟩
                    · have hK4 : Know d n (q + 1) n (fs3 ++ [(s0, false)]) E2 := (hK3.settle (x := n) (.inr (by simp [endsB, h44]))).adv (by omega) (by omega) (Adv.one hql (by rw [eq_of_beq h44]; decide))
                      go_wp2_with fail
                      rw [show ((q : Int) + 1) = ((q + 1 : Nat) : Int) from by omega]
                      refine (skipWS_any b off n c d (q + 1) _ hn (by omega) ((HM4.out.alloc _).bytes hb hB)).mono ?_
                      rintro e w1 ⟨⟨r, rfl, hr⟩, rfl⟩
                      have hK5 := hK4.adv hr.1 hr.2.1 hr.adv
                      have HK5 : Hid (Know d n r n (fs3 ++ [(s0, false)]) E2) := hK5
                      have hrq : q < r := hr.1
                      have hrn : r ≤ n := hr.2.1
                      clear hK4 hK5 hr
                      go_wp2
                      go_roundg (n + 1 - r)
                      case measure => omega
                      case rel => exact ⟨r, fs3 ++ [(s0, false)], some ⟨g, 0, none⟩, cap', _, true, by omega, by omega, rfl, by simp, rfl, HM4.out.alloc _, HK5.out⟩
                    · have hcl2 : closesB (d q) = true := by simp [closesB, hcl]
                      have hen2 : endsB (d q) = true := by simp [endsB, hcl]
                      obtain ⟨hs0, hK6⟩ := hK3.pop hql hcl2 hen2
                      have hcr := HM4.out.row.cell hs0
                      have hfr := HM4.out.row.frozen s0
                      have hcr' := fun o => (HM4.out.alloc o).row.cell hs0
                      have hfr' := fun o => (HM4.out.alloc o).row.frozen s0
                      have hBl := HM4.out.row.lt
                      clear hcl2 hen2
                      go_wp2
                      go_roundg (n + 1 - (q + 1))
                      case measure => omega
                      case rel => exact ⟨q + 1, fs3, _, cap', _, false, by omega, by omega, by go_num, rfl, rfl, (HM3.out.set s0 _).alloc _, hK6⟩
                    · go_wp2
                      go_ret2
                      exact ⟨(HM4.out.alloc _).bel, .inl rfl⟩
end Go.Proofs.Qxb6604204a
