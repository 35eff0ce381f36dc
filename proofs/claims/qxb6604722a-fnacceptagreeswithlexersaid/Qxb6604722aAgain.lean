import Derived.Test.Qxb6604722aAhead
namespace Go.Proofs.Qxb6604722a
open Go.ChangeShapes Go.WideShapes Go.ChangeAt Go.RowKit
open Pl Lx
set_option linter.unusedSimpArgs false
set_option linter.unusedVariables false

theorem own_at {w : World} {base : Nat} {e : TypeId} {v : Value} {n : Nat} {xs : List Value} (h : w.ownsRow base e 5 v n xs) (hn : 0 < n) : ∃ g cap, v = .slice (some ⟨g, 0, none⟩) n cap ∧ base ≤ g ∧ n ≤ cap ∧ ∀ j u, xs[j]? = some u → w.cell? ⟨g, j, none⟩ = some u := by
  rcases h.2 with ⟨h1, h2⟩ | ⟨g, cap, cur, h1, h2, h3, h4, h5, h6, h7⟩
  · omega
  · refine ⟨g, cap, h1, h2, h4, fun j u hj => ?_⟩
    rw [← h7, List.getElem?_take] at hj
    split at hj
    · simp [World.cell?, h3]; simpa using hj
    · cases hj

def z5 : List Value := [.int .i64 0, .int .i64 0, .string ⟨#[]⟩, .string ⟨#[]⟩, .int .i64 0]
theorem zeros_copy {w : World} {P : Nat} {v : Value} (h : w.ownsRow (P + 1) 50 5 v 5 (tksCells (List.replicate 5 zTok))) :
    ∃ g cap, v = .slice (some ⟨g, 0, none⟩) 5 cap ∧ P < g ∧ 5 ≤ cap ∧ (∀ m, (Builtin.copy_ #[54, 54] 3 #[.slice (some ⟨g, 0, none⟩) 5 cap, .slice (some ⟨g, 5, none⟩) 4 (cap - 1)]).run Try.prog (w.drewN m) = .ok (.int .i64 4) (w.drewN m)) ∧
      w.ownsRow (P + 1) 50 5 (.slice (some ⟨g, 0, none⟩) 4 cap) 4 (tksCells (List.replicate 4 zTok)) := by
  rcases h.2 with ⟨_, h2⟩ | ⟨g, cap, cur, h1, h2, h3, h4, h5, h6, h7⟩
  · omega
  · have hz : tksCells (List.replicate 5 zTok) = z5 ++ z5 ++ z5 ++ z5 ++ z5 := rfl
    have hz4 : tksCells (List.replicate 4 zTok) = z5 ++ z5 ++ z5 ++ z5 := rfl
    rw [hz] at h7
    refine ⟨g, cap, h1, by omega, h4, fun m => ?_, rfl, .inr ⟨g, cap, cur, rfl, h2, h3, by omega, h5, h6, ?_⟩⟩
    · have h20 : cur.toList.take 20 = z5 ++ z5 ++ z5 ++ z5 := by
        have : cur.toList.take 20 = (cur.toList.take (5 * 5)).take 20 := by rw [List.take_take]; rfl
        rw [this, h7]; rfl
      have hr := run_copy_row_w (P := Try.prog) (w.drewN m) 54 54 3 50 g 0 5 cap ⟨g, 5, none⟩ 4 (cap - 1) 5 cur 50 (z5 ++ z5 ++ z5 ++ z5) Try.underlying54 (by kernel_rfl) h3 rfl
        (fun j u hj => by
          have hjl : j < 20 := by
            have := List.getElem?_eq_some_iff.1 hj
            exact this.1
          have hx : (cur.toList)[5 + j]? = some u := by
            have : (cur.toList.take (5 * 5))[5 + j]? = some u := by
              rw [h7, List.append_assoc, List.append_assoc, List.append_assoc, List.getElem?_append_right (by simp [z5])]
              simpa [z5] using hj
            rw [List.getElem?_take] at this
            split at this
            · exact this
            · cases this
          show (w.drewN m).cell? ((⟨g, 5, none⟩ : Addr).add j) = some u
          have h3' : (w.drewN m).heap[g]? = some (.cells cur 50 (0, 0)) := h3
          have hadd : (⟨g, 5, none⟩ : Addr).add j = ⟨g, 5 + j, none⟩ := by unfold Addr.add; split <;> simp_all
          rw [hadd]
          simp only [World.cell?, h3']; simpa using hx) (by simp [z5]; omega) (by
          intro u hu
          have : u ∈ z5 := by simpa using hu
          simp [z5] at this
          rcases this with rfl | rfl | rfl <;> rfl)
      rw [hr]
      have hrow : (cur.toList.take 0 ++ (z5 ++ z5 ++ z5 ++ z5) ++ cur.toList.drop (0 + (z5 ++ z5 ++ z5 ++ z5).length)).toArray = cur := by
        rw [← h20]
        have : (List.take 20 cur.toList).length = 20 := by rw [h20]; rfl
        rw [this]; simp
      rw [hrow, setRow_self (w.drewN m) g cur 50 (0, 0) h3]
      rfl
    · rw [hz4]
      have : cur.toList.take (4 * 5) = (cur.toList.take (5 * 5)).take (4 * 5) := by rw [List.take_take]; rfl
      rw [this, h7]; rfl

set_option maxRecDepth 20000 in
set_option maxHeartbeats 4000000 in
theorem readAhead_again (src : ByteArray) (mk : Bool) (P p : Nat) (md en : Int) (v : Value) (w : World) (hA : PAt w P src p mk md v 5 (tksCells (List.replicate 5 zTok)) 1 true en) :
    Calls Try.prog 24 #[.pointer (some ⟨P, 0, none⟩)] w fun e w' => e = .returned (.tuple #[]) ∧ Below P w w' ∧ ∃ v', PAt w' P src p mk md v' 4 (tksCells (List.replicate 4 zTok)) 0 true en := by
  obtain ⟨g, cap, rfl, hg, hcap, hcp0, hown⟩ := zeros_copy hA.own
  have hcp : (Builtin.copy_ #[54, 54] 3 #[.slice (some ⟨g, 0, none⟩) 5 cap, .slice (some ⟨g, 5, none⟩) 4 (cap - 1)]).run Try.prog w.drew = .ok (.int .i64 4) w.drew := hcp0 1
  clear hcp0
  have c4 := hA.c4
  have c5 := hA.c5
  have f4 := hA.lex.fr 4
  have f5 := hA.lex.fr 5
  have HA : Hid (PAt w P src p mk md (.slice (some ⟨g, 0, none⟩) 5 cap) 5 (tksCells (List.replicate 5 zTok)) 1 true en) := hA
  have HO : Hid (w.ownsRow (P + 1) 50 5 (.slice (some ⟨g, 0, none⟩) 4 cap) 4 (tksCells (List.replicate 4 zTok))) := hown
  clear hA hown
  go_enter Try.func24, Try.ntmps24
  go_upto_region 0 with fail
  go_cut [27] from 3 to 26 (fun _ wx => PAt wx P src p mk md (.slice (some ⟨g, 0, none⟩) 4 cap) 4 (tksCells (List.replicate 4 zTok)) 0 true en ∧ Below P w wx)
  case first =>
    go_region
    all_goals (try go_wp2_with fail)
    all_goals go_meet
    all_goals exact ⟨((HA.out.setAhead HO.out).setNext 0).drewN 1, below_drewN (Below.setP (Below.setP (Below.refl _ _) _ _) _ _) 1⟩
  case rest =>
    obtain ⟨hA1, hb1⟩ := hcut
    clear c4 c5 f4 f5 HA hcp HO
    go_wp2_with fail
    go_loopg [61] 1 (fun g' _ wr => PAt wr P src p mk md (.slice (some ⟨g, 0, none⟩) 4 cap) 4 (tksCells (List.replicate 4 zTok)) 0 true en ∧ Below P w wr)
    case atStart => exact ⟨hA1, hb1⟩
    case round =>
      clear hA1 hb1
      obtain ⟨hA, hb⟩ := hrel
      have HA : Hid (PAt wr P src p mk md (.slice (some ⟨g, 0, none⟩) 4 cap) 4 (tksCells (List.replicate 4 zTok)) 0 true en) := hA
      have HB : Hid (Below P w wr) := hb
      have c4 := hA.c4
      have c6 := hA.c6
      clear hA hb
      go_wp2
      exact bodyPost_end (v := .tuple #[]) (by simp [results, Try.results24, go_sem]) rfl ⟨rfl, HB.out, _, HA.out⟩
end Go.Proofs.Qxb6604722a
