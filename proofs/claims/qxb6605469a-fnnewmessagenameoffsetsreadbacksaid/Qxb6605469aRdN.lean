import Derived.Test.Qxb6605469aName
set_option linter.unusedSimpArgs false
set_option linter.unusedVariables false
namespace Go.Proofs.Qxb6605469a
open Go.ChangeShapes Go.WideShapes Go.ChangeAt Go.RowKit

abbrev RObj (gb N cap A : Nat) : Obj := .cells #[.slice (some ⟨gb, 0, none⟩) N cap, .int .i64 (A : Int)] 57
theorem robj_at (w : World) (gb N cap A : Nat) : RAt (w.alloc (RObj gb N cap A)) w.heap.size (.slice (some ⟨gb, 0, none⟩) N cap) A := by
  have hM : (w.alloc (RObj gb N cap A)).heap[w.heap.size]? = some (RObj gb N cap A) := heap_alloc_new _ _
  refine ⟨(Array.getElem?_eq_some_iff.1 hM).1, by simp only [World.cell?, hM]; rfl, by simp only [World.cell?, hM]; rfl, fun j => by simp only [World.frozen?, hM]; simp⟩
theorem own_strs' {W : World} {K : Nat} {aa : Option Addr} {m ac : Nat} {keys : List ByteArray} (h : W.ownsRow K 9 1 (.slice aa m ac) m (keys.map sv)) : Strs W aa m keys := by
  obtain ⟨hl, ⟨h1, h2⟩ | ⟨g, cap, cur, h1, h2, h3, h4, h5, h6, h7⟩⟩ := h
  · subst h2
    exact ⟨by omega, .inl rfl⟩
  · injection h1 with h1 _ _
    subst h1
    refine ⟨by omega, .inr ⟨g, 0, rfl, (Array.getElem?_eq_some_iff.1 h3).1, fun j x hj => ?_⟩⟩
    rw [← h7, List.getElem?_take] at hj
    split at hj
    · rw [Nat.zero_add]; simp [World.cell?, h3]; simpa using hj
    · cases hj

set_option maxRecDepth 20000 in
set_option maxHeartbeats 2000000 in
theorem readerName_any (gb cap N i n : Nat) (xs : List ByteArray) (tl : List UInt8) (w : World) (hb : Byts w (some ⟨gb, 0, none⟩) N (msgB xs n tl)) (hgl : gb < w.heap.size) (hcap : N ≤ cap) (hN : N ≤ 1048576) (hN2 : 12 + fr xs n < N) (hin : i ≤ n) (hn : n ≤ 4096) (hsz : ∀ j, j < n → 1 ≤ (lbl xs j).size ∧ (lbl xs j).size ≤ 63) (hf : fr xs n ≤ 254) :
    Calls Try.prog 15 #[.slice (some ⟨gb, 0, none⟩) N cap, .int .i64 (12 + fr xs i : Nat)] w fun e w' => ∃ aa ac, e = .returned (.tuple #[.slice aa (n - i) ac, .bool true, .int .i64 (12 + fr xs n + 1 : Nat)]) ∧ Below w.heap.size w w' ∧ Strs w' aa (n - i) (lowsT xs i (n - i)) := by
  obtain ⟨A, hA⟩ : ∃ A, A = 12 + fr xs i := ⟨_, rfl⟩
  obtain ⟨E, hE⟩ : ∃ E, E = 12 + fr xs n + 1 := ⟨_, rfl⟩
  rw [← hA, ← hE]
  have hc := name_any w.heap.size gb cap N i n xs tl (w.alloc (RObj gb N cap A)) (by rw [← hA]; exact robj_at w gb N cap A) (Row.below' hb ((Below.refl _ _).alloc (Nat.le_refl _) _)) (by omega) hcap hN hN2 hin hn hsz hf
  rw [← hE] at hc
  have HC : Hid _ := hc
  have HRA : Hid _ := robj_at w gb N cap A
  have HB0 : Hid (Below w.heap.size w ((w.alloc (RObj gb N cap A)).setCell ⟨w.heap.size, 1, none⟩ (.int .i64 E))) := ((Below.refl _ _).alloc (Nat.le_refl _) _).setCell (Nat.le_refl _) _
  clear hc hb hsz hA hE
  go_enter Try.func15, Try.ntmps15
  go_wp2_with fail
  refine Calls.mono HC.out ?_
  rintro e w1 ⟨v, rfl, hM⟩
  obtain ⟨aa, ac, rfl⟩ := own_shape hM.own
  have hll := lowsT_len xs i (n - i)
  rw [hll] at hM ⊢
  have HM : Hid (NM (w.alloc (RObj gb N cap A)) w1 w.heap.size E (.slice aa (n - i) ac) (lowsT xs i (n - i))) := hM
  have c1 := (hM.rat HRA.out).c1
  have HS : Hid (Strs w1 aa (n - i) (lowsT xs i (n - i))) := own_strs' (by have := hM.own; rw [hll] at this; exact this)
  have HB : Hid (Below w.heap.size w w1) := HB0.out.trans (hM.bel.mono (by simp))
  clear hM HC HRA HB0 hll
  go_upto_region 3 with fail
  go_region
  all_goals (try go_wp2_with fail)
  all_goals
    refine bodyPost_ret (v := .tuple #[.slice aa (n - i) ac, .bool true, .int .i64 E]) (by simp [results, Try.results15, go_sem]) rfl ⟨aa, ac, rfl, below_drewN HB.out 1, ?_⟩
    exact Row.below' HS.out (below_drewN (Below.refl _ _) 1)
end Go.Proofs.Qxb6605469a
