import Derived.Test.Qxb6604722aPat
import Derived.Test.Qxb6604722aNext
import Derived.BigRegion
import Derived.Laws.CopyOwn
set_option linter.unusedSimpArgs false
set_option linter.unusedVariables false
namespace Go
/-- 'copy' between slices of elements of several cells. -/
theorem run_copy_row_w {P : Program} (w : World) (dT sT ty elem : TypeId) (g o dLen dCap : Nat) (a : Addr) (sLen sCap size : Nat) (cur : Array Value) (t : TypeId) (cs : List Value)
    (hu : P.underlying dT = some (.slice elem)) (hs : (P.info? elem).map (·.size) = some size)
    (hg : w.heap[g]? = some (.cells cur t (0, 0))) (hn : cs.length = Nat.min sLen dLen * size)
    (hsrc : ∀ j v, cs[j]? = some v → w.cell? (a.add j) = some v) (hfit : o + cs.length ≤ cur.size) (h1 : ∀ v ∈ cs, v.oneCell' = true) :
    (Builtin.copy_ #[dT, sT] ty #[.slice (some ⟨g, o, none⟩) dLen dCap, .slice (some a) sLen sCap]).run P w =
      .ok (goInt (Nat.min sLen dLen)) (w.setRow g (cur.toList.take o ++ cs ++ cur.toList.drop (o + cs.length)).toArray) := by
  have hl := run_loadCells_list (P := P) w a cs hsrc
  have hst := run_storeCells_at P g o t cs 0 cur w hg (by simpa using hfit) h1
  cases hq : P.info? elem with
  | none => simp [hq] at hs
  | some i =>
    have hi : i.size = size := by simpa [hq] using hs
    simp [Builtin.copy_, run_underlying hu, Builtin.lenOf, Builtin.firstCells, sizeOf, typeInfo, hq, hi, ← hn, hl, hst]
theorem run_copy_none_w {P : Program} (w : World) (dT sT ty elem : TypeId) (hu : P.underlying dT = some (.slice elem)) (hs : ((P.info? elem).map (·.size)).isSome = true) :
    (Builtin.copy_ #[dT, sT] ty #[.slice none 0 0, .slice none 0 0]).run P w = .ok (goInt 0) w := by
  cases hq : P.info? elem with
  | none => simp [hq] at hs
  | some i => simp [Builtin.copy_, run_underlying hu, Builtin.lenOf, Builtin.firstCells, sizeOf, typeInfo, hq, storeCells]
end Go
namespace Go.Proofs.Qxb6604722a
open Go.ChangeShapes Go.WideShapes Go.ChangeAt Go.RowKit
open Pl Lx
set_option linter.unusedSimpArgs false
set_option linter.unusedVariables false

theorem info50 : (Try.prog.info? 50).map (fun i => (i.zero, i.size, i.bytes)) = some (some (.agg #[.int .i64 0, .int .i64 0, .string ⟨#[]⟩, .string ⟨#[]⟩, .int .i64 0]), 5, 56) := by kernel_rfl

theorem own_form {w : World} {base : Nat} {e : TypeId} {size : Nat} {v : Value} {n : Nat} {xs : List Value} (h : w.ownsRow base e size v n xs) : ∃ a cap, v = .slice a n cap := by
  rcases h.2 with ⟨h1, h2⟩ | ⟨g, cap, cur, h1, _⟩
  · exact ⟨none, 0, by rw [h1, h2]⟩
  · exact ⟨_, cap, h1⟩
theorem five_new (w : World) (a b c d e : Value) (t : TypeId) : ∀ j u, [a, b, c, d, e][j]? = some u → (w.alloc (.cells #[a, b, c, d, e] t)).cell? ((⟨w.heap.size, 0, none⟩ : Addr).add j) = some u := by
  intro j u hj
  match j, hj with
  | 0, hj => simp at hj; subst hj; simp [Addr.add]
  | 1, hj => simp at hj; subst hj; simp [Addr.add]
  | 2, hj => simp at hj; subst hj; simp [Addr.add]
  | 3, hj => simp at hj; subst hj; simp [Addr.add]
  | 4, hj => simp at hj; subst hj; simp [Addr.add]
theorem five_one (k p n : Int) (tx vl : ByteArray) : ∀ u ∈ [Value.int .i64 k, .int .i64 p, .string tx, .string vl, .int .i64 n], u.oneCell' = true := by
  intro u hu
  simp at hu
  rcases hu with rfl | rfl | rfl | rfl | rfl <;> rfl

set_option maxHeartbeats 1000000 in
theorem ends_any (k p n : Int) (tx vl : ByteArray) (w : World) : Calls Try.prog 33 #[tkV k p tx vl n] w fun e w' => e = .returned (.bool (k == 10 || k == 0)) ∧ w' = w.alloc (.cells #[.int .i64 k, .int .i64 p, .string tx, .string vl, .int .i64 n] 50) := by
  unfold tkV
  cases h : (k == 10)
  · go_enter Try.func33, Try.ntmps33
    go_wp2
    go_ret
    exact ⟨ret_bool (by simp), rfl⟩
  · go_enter Try.func33, Try.ntmps33
    go_wp2
    go_ret
    exact ⟨ret_bool (by simp), rfl⟩

theorem PAt.shape {W : World} {P : Nat} {src : ByteArray} {pos : Nat} {mk : Bool} {md : Int} {v : Value} {n : Nat} {xs : List Value} {ip : Int} {fin : Bool} {en : Int} (h : PAt W P src pos mk md v n xs ip fin en) : ∃ a cap, v = .slice a n cap := by
  rcases h.own.2 with ⟨h1, h2⟩ | ⟨g, cap, cur, h1, _⟩
  · exact ⟨none, 0, by rw [h1, h2]⟩
  · exact ⟨_, cap, h1⟩

/-- What readAhead has laid: the first tokens, or all of them and five empty ones. -/
def Filled (src : ByteArray) (mk : Bool) (P : Nat) (W : World) : Prop :=
  ∃ (k : Nat) (v : Value) (p : Nat) (md : Int), (∀ j, j < k → endsV (stT src mk j) = false) ∧
    ((k = 32 ∧ PAt W P src p mk md v 32 (tksCells (seen src mk 32)) 0 false 0) ∨
     (k < 32 ∧ endsV (stT src mk k) = true ∧ PAt W P src p mk md v (k + 5) (tksCells (seen src mk k ++ List.replicate 5 zTok)) 0 true 0))

def Going (src : ByteArray) (mk : Bool) (P : Nat) (w : World) (g : Nat) (W : World) : Prop :=
  Below P w W ∧ ((∃ (k : Nat) (v : Value), k + g = 33 ∧ k ≤ 32 ∧ (∀ j, j < k → endsV (stT src mk j) = false) ∧ PAt W P src (stS src mk k).1 mk (stS src mk k).2 v k (tksCells (seen src mk k)) 0 false 0) ∨
    (∃ (k : Nat) (v : Value) (p : Nat) (md : Int), k < 32 ∧ (∀ j, j < k → endsV (stT src mk j) = false) ∧ endsV (stT src mk k) = true ∧ PAt W P src p mk md v (k + 5) (tksCells (seen src mk k ++ List.replicate 5 zTok)) 0 true 0))

theorem Below.setP {P : Nat} {a b : World} (h : Below P a b) (j : Nat) (u : Value) : Below P a (b.setCell ⟨P, j, none⟩ u) := h.setCell (Nat.le_refl _) u

set_option maxRecDepth 20000 in
set_option maxHeartbeats 4000000 in
theorem readAhead_first (src : ByteArray) (mk : Bool) (P : Nat) (w : World) (hs : src.size ≤ 1048576) (hA : PAt w P src 0 mk 0 (.slice none 0 0) 0 [] 0 false 0) :
    Calls Try.prog 24 #[.pointer (some ⟨P, 0, none⟩)] w fun e w' => e = .returned (.tuple #[]) ∧ Below P w w' ∧ Filled src mk P w' := by
  have hcp := fun wx : World => run_copy_none_w (P := Try.prog) wx 54 54 3 50 Try.underlying54 (by kernel_rfl)
  obtain ⟨i0, hi, hz0, hz1, hz2⟩ := info_parts info50
  have c4 := hA.c4
  have c5 := hA.c5
  have f4 := hA.lex.fr 4
  have f5 := hA.lex.fr 5
  have HA : Hid (PAt w P src 0 mk 0 (.slice none 0 0) 0 [] 0 false 0) := hA
  clear hA
  go_enter Try.func24, Try.ntmps24
  go_upto_region 0 with fail
  go_cut [27] from 3 to 26 (fun _ wx => PAt wx P src 0 mk 0 (.slice none 0 0) 0 [] 0 false 0 ∧ Below P w wx)
  case first =>
    go_region
    all_goals (try go_wp2_with fail)
    all_goals go_meet
    all_goals exact ⟨((HA.out.setAhead (World.ownsRow_nil _ _ _ _)).setNext 0).drewN 1, below_drewN (Below.setP (Below.setP (Below.refl _ _) _ _) _ _) 1⟩
  case rest =>
    obtain ⟨hA1, hb1⟩ := hcut
    clear c4 c5 f4 f5 HA hcp
    go_wp2_with fail
    go_loopg [61] 33 (fun g _ wr => Going src mk P w g wr)
    case atStart => exact ⟨hb1, .inl ⟨0, _, rfl, by omega, fun j hj => by omega, hA1⟩⟩
    case round =>
      clear hA1 hb1
      obtain ⟨hb, ⟨k, v, hkg, hk, hne, hA⟩ | ⟨k, v, p, md, hk, hne, he, hA⟩⟩ := hrel
      · obtain ⟨a, cap, rfl⟩ := hA.shape
        have HA : Hid (PAt wr P src (stS src mk k).1 mk (stS src mk k).2 (.slice a k cap) k (tksCells (seen src mk k)) 0 false 0) := hA
        have c4 := hA.c4
        have c6 := hA.c6
        have hst := stS_bounds src mk k
        have HB : Hid (Below P w wr) := hb
        have HN : Hid (∀ j, j < k → endsV (stT src mk j) = false) := hne
        clear hb hA hne
        by_cases h32 : k < 32
        · have hd : decide ((k : Int) < 32) = true := decide_eq_true (by omega)
          go_wp2_with fail
          refine (next_any P 0 src (stS src mk k).1 mk (stS src mk k).2 _ hst.1 hs hst.2.1 (by omega) HA.out.lex).mono ?_
          rintro e w1 ⟨rfl, hm⟩
          have HA1 : Hid (PAt w1 P src (stS src mk (k + 1)).1 mk (stS src mk (k + 1)).2 (.slice a k cap) k (tksCells (seen src mk k)) 0 false 0) := HA.out.lexed hm
          have HB1 : Hid (Below P w w1) := Below.trans (Below.setP (Below.setP HB.out _ _) _ _) (Below.mono hm (Nat.le_of_lt HA.out.lex.lt))
          clear hm HA HB c4 c6 hst
          obtain ⟨ki, p, tx, vl, n, hf⟩ := stT_form src mk k
          rw [show (nx src mk (stS src mk k).2 (stS src mk k).1).1 = tkV ki p tx vl n from hf]
          have HE : Hid (endsV (stT src mk k) = (ki == 10 || ki == 0)) := by unfold Hid; rw [hf]; rfl
          have HC : Hid (tkCells (stT src mk k) = [.int .i64 ki, .int .i64 p, .string tx, .string vl, .int .i64 n]) := by unfold Hid; rw [hf]; rfl
          clear hf
          rw [tkV]
          go_upto_region 3 with fail
          go_wp2_with fail
          refine (ends_any ki p n tx vl _).mono ?_
          rintro e w2 ⟨rfl, rfl⟩
          have HA2 : Hid (PAt ((w1.alloc (.cells #[.int .i64 ki, .int .i64 p, .string tx, .string vl, .int .i64 n] 50)).alloc (.cells #[.int .i64 ki, .int .i64 p, .string tx, .string vl, .int .i64 n] 50)) P src (stS src mk (k + 1)).1 mk (stS src mk (k + 1)).2 (.slice a k cap) k (tksCells (seen src mk k)) 0 false 0) := (HA1.out.alloc _).alloc _
          have hPs : P < w1.heap.size := HA1.out.lex.lt
          have HB2 : Hid (Below P w ((w1.alloc (.cells #[.int .i64 ki, .int .i64 p, .string tx, .string vl, .int .i64 n] 50)).alloc (.cells #[.int .i64 ki, .int .i64 p, .string tx, .string vl, .int .i64 n] 50))) := Below.alloc (Below.alloc HB1.out (by omega) _) (by simp; omega) _
          have d0 : ((w1.alloc (.cells #[.int .i64 ki, .int .i64 p, .string tx, .string vl, .int .i64 n] 50)).alloc (.cells #[.int .i64 ki, .int .i64 p, .string tx, .string vl, .int .i64 n] 50)).cell? ⟨w1.heap.size, 0, none⟩ = some (.int .i64 ki) := by simp [go_sem]
          have d1 : ((w1.alloc (.cells #[.int .i64 ki, .int .i64 p, .string tx, .string vl, .int .i64 n] 50)).alloc (.cells #[.int .i64 ki, .int .i64 p, .string tx, .string vl, .int .i64 n] 50)).cell? ⟨w1.heap.size, 1, none⟩ = some (.int .i64 p) := by simp [go_sem]
          have d2 : ((w1.alloc (.cells #[.int .i64 ki, .int .i64 p, .string tx, .string vl, .int .i64 n] 50)).alloc (.cells #[.int .i64 ki, .int .i64 p, .string tx, .string vl, .int .i64 n] 50)).cell? ⟨w1.heap.size, 2, none⟩ = some (.string tx) := by simp [go_sem]
          have d3 : ((w1.alloc (.cells #[.int .i64 ki, .int .i64 p, .string tx, .string vl, .int .i64 n] 50)).alloc (.cells #[.int .i64 ki, .int .i64 p, .string tx, .string vl, .int .i64 n] 50)).cell? ⟨w1.heap.size, 3, none⟩ = some (.string vl) := by simp [go_sem]
          have d4 : ((w1.alloc (.cells #[.int .i64 ki, .int .i64 p, .string tx, .string vl, .int .i64 n] 50)).alloc (.cells #[.int .i64 ki, .int .i64 p, .string tx, .string vl, .int .i64 n] 50)).cell? ⟨w1.heap.size, 4, none⟩ = some (.int .i64 n) := by simp [go_sem]
          generalize (w1.alloc (.cells #[.int .i64 ki, .int .i64 p, .string tx, .string vl, .int .i64 n] 50)).alloc (.cells #[.int .i64 ki, .int .i64 p, .string tx, .string vl, .int .i64 n] 50) = w2 at HA2 HB2 d0 d1 d2 d3 d4 ⊢
          clear HA1 HB1
          rw [← HE.out]
          have c4 := HA2.out.c4
          have c6 := HA2.out.c6
          have f4 := HA2.out.lex.fr 4
          have f6 := HA2.out.lex.fr 6
          have hPl : P < w2.heap.size := HA2.out.lex.lt
          cases hen : endsV (stT src mk k)
          · have HN2 : Hid (∀ j, j < k + 1 → endsV (stT src mk j) = false) := by
              intro j hj
              by_cases e : j = k
              · rw [e]; exact hen
              · exact HN.out j (by omega)
            clear hen HE
            go_upto_region 4 with fail
            go_cut [57] from 48 to 56 (fun _ wx => Below P w wx ∧ ∃ v', PAt wx P src (stS src mk (k + 1)).1 mk (stS src mk (k + 1)).2 v' (k + 1) (tksCells (seen src mk (k + 1))) 0 false 0)
            case first =>
              go_region_law (refine step_append_own rfl (.tmp 52) (.tmp 54) 54 rfl (P + 1) 50 i0 (.agg #[.int .i64 0, .int .i64 0, .string ⟨#[]⟩, .string ⟨#[]⟩, .int .i64 0]) 5 56 Try.underlying54 hi hz0 hz1 hz2 rfl (by decide) (.slice a k cap) k (tksCells (seen src mk k)) (by simp [Act.eval, Act.put]) (HA2.out.own.alloc _) ⟨w2.heap.size, 0, none⟩ 1 1 [.int .i64 ki, .int .i64 p, .string tx, .string vl, .int .i64 n] (by simp [Act.eval, Act.put]) rfl (five_new _ _ _ _ _ _ _) (five_one _ _ _ _ _) (by unfold maxLen; omega) (by omega) (by have := HA2.out.lex.lt; simp; omega) ?_; intro v' w3 hown hgrow; obtain ⟨a3, cap3, rfl⟩ := own_form hown; have g3 := PAt.grown (PAt.alloc (PAt.drewN HA2.out 1) _) hgrow; have g4 := g3.2.1; have h4 := g3.1.fr 4; clear g3)
              all_goals (try go_wp2_with fail)
              all_goals go_meet
              all_goals exact ⟨Below.setP (Below.grown (Below.alloc (below_drewN HB2.out 1) (Nat.le_of_lt hPl) _) hgrow (by simp; omega) (fun j hj => by have := (HA2.out.own.lt j hj).1; omega)) _ _, _, PAt.appended (PAt.alloc (PAt.drewN HA2.out 1) _) hgrow (by rw [seen_succ, tksCells_snoc, HC.out]; exact hown)⟩
            case rest =>
              obtain ⟨hb3, v', hA3⟩ := hcut
              clear c4 c6 f4 f6 HA2 HB2 d0 d1 d2 d3 d4
              go_wp2
              go_roundg (33 - (k + 1))
              case measure => omega
              case rel => exact ⟨hb3, .inl ⟨k + 1, v', by omega, by omega, HN2.out, hA3⟩⟩
          · have HEn : Hid (endsV (stT src mk k) = true) := hen
            clear hen HE HC d0 d1 d2 d3 d4
            go_upto_region 6 with fail
            have HA3 : Hid (PAt (w2.setCell ⟨P, 6, none⟩ (.bool true)) P src (stS src mk (k + 1)).1 mk (stS src mk (k + 1)).2 (.slice a k cap) k (tksCells (seen src mk k)) 0 true 0) := HA2.out.setEnded true
            have HB3 : Hid (Below P w (w2.setCell ⟨P, 6, none⟩ (.bool true))) := Below.setP HB2.out _ _
            generalize w2.setCell ⟨P, 6, none⟩ (.bool true) = w3 at HA3 HB3 ⊢
            clear c4 c6 f4 f6 HA2 HB2 hPl
            go_wp2_with fail
            go_loopg [61] 5 (fun g x wr => ∃ (i : Nat) (v : Value), i + g = 5 ∧ x = .int .i64 i ∧ Below P w wr ∧ PAt wr P src (stS src mk (k + 1)).1 mk (stS src mk (k + 1)).2 v (k + i) (tksCells (seen src mk k ++ List.replicate i zTok)) 0 true 0)
            case atStart => exact ⟨0, _, by omega, rfl, HB3.out, by simpa using HA3.out⟩
            case round =>
              clear HA3 HB3
              obtain ⟨i, v, hig, rfl, hb4, hA4⟩ := hrel
              obtain ⟨a, cap, rfl⟩ := hA4.shape
              have HA4 : Hid (PAt wr P src (stS src mk (k + 1)).1 mk (stS src mk (k + 1)).2 (.slice a (k + i) cap) (k + i) (tksCells (seen src mk k ++ List.replicate i zTok)) 0 true 0) := hA4
              have HB4 : Hid (Below P w wr) := hb4
              have c4 := hA4.c4
              have f4 := hA4.lex.fr 4
              have hPl : P < wr.heap.size := hA4.lex.lt
              clear hA4 hb4
              by_cases hi5 : i < 5
              · have hi5' : (i : Int) < 5 := by omega
                go_wp2_with (at_builtin; refine wpList_append_own _ rfl _ _ 54 rfl (P + 1) 50 i0 (.agg #[.int .i64 0, .int .i64 0, .string ⟨#[]⟩, .string ⟨#[]⟩, .int .i64 0]) 5 56 Try.underlying54 hi hz0 hz1 hz2 rfl (by decide) _ _ _ rfl (HA4.out.own.alloc _) ⟨wr.heap.size, 0, none⟩ 1 1 [.int .i64 0, .int .i64 0, .string ⟨#[]⟩, .string ⟨#[]⟩, .int .i64 0] rfl rfl (five_new _ _ _ _ _ _ _) (five_one _ _ _ _ _) (by unfold maxLen; omega) (by omega) (by simp; omega) ?_)
                intro v' w5 hown hgrow hnn
                obtain ⟨a5, cap5, rfl⟩ := own_form hown
                have g3 := PAt.grown (PAt.alloc HA4.out _) hgrow
                have g4 := g3.2.1
                have h4 := g3.1.fr 4
                clear g3
                go_wp2
                go_roundg (5 - (i + 1))
                case measure => omega
                case rel =>
                  refine ⟨i + 1, .slice a5 (k + i + 1) cap5, by omega, by go_num, Below.setP (Below.grown (Below.alloc HB4.out (Nat.le_of_lt hPl) _) hgrow (by simp; omega) (fun j hj => by have := (HA4.out.own.lt j hj).1; omega)) _ _, ?_⟩
                  have hx := PAt.appended (PAt.alloc HA4.out _) hgrow hown
                  rw [show seen src mk k ++ List.replicate (i + 1) zTok = (seen src mk k ++ List.replicate i zTok) ++ [zTok] from by rw [List.replicate_succ', List.append_assoc], tksCells_snoc]
                  exact hx
              · obtain rfl : i = 5 := by omega
                go_wp2
                go_roundg 0
                case measure => omega
                case rel => exact ⟨HB4.out, .inr ⟨k, _, _, _, h32, HN.out, HEn.out, HA4.out⟩⟩
        · obtain rfl : k = 32 := by omega
          have HF : Hid (Filled src mk P wr) := ⟨32, _, _, _, HN.out, .inl ⟨rfl, HA.out⟩⟩
          go_wp2
          exact bodyPost_end (v := .tuple #[]) (by simp [results, Try.results24, go_sem]) rfl ⟨rfl, HB.out, HF.out⟩
      · obtain ⟨a, cap, rfl⟩ := hA.shape
        have HF : Hid (Filled src mk P wr) := ⟨k, _, p, md, hne, .inr ⟨hk, he, hA⟩⟩
        have c4 := hA.c4
        have c6 := hA.c6
        have HB : Hid (Below P w wr) := hb
        clear hb hA he hne
        by_cases h32 : k + 5 < 32
        · have hd : decide (((k + 5 : Nat) : Int) < 32) = true := decide_eq_true (by omega)
          go_wp2
          exact bodyPost_end (v := .tuple #[]) (by simp [results, Try.results24, go_sem]) rfl ⟨rfl, HB.out, HF.out⟩
        · have hd : decide (((k + 5 : Nat) : Int) < 32) = false := decide_eq_false (by omega)
          go_wp2
          exact bodyPost_end (v := .tuple #[]) (by simp [results, Try.results24, go_sem]) rfl ⟨rfl, HB.out, HF.out⟩
end Go.Proofs.Qxb6604722a
