import Derived.Test.Qxb6605469aZz
set_option linter.unusedSimpArgs false
set_option linter.unusedVariables false
namespace Go.Proofs.Qxb6605469a
open Go.ChangeShapes Go.WideShapes Go.ChangeAt Go.RowKit
open Go.Maps

theorem row512_byts {W : World} {s : Nat} (h : W.heap[s]? = some (.cells row512.toArray 5 (0, 0))) : Byts W (some ⟨s, 0, none⟩) 12 (List.replicate 12 0) := by
  refine ⟨rfl, .inr ⟨s, 0, rfl, (Array.getElem?_eq_some_iff.1 h).1, fun j x hj => ?_⟩⟩
  have e : (List.replicate 12 (0 : UInt8)).map bv = row512.take 12 := by rw [row512_take]; rfl
  rw [e, List.getElem?_take] at hj
  split at hj
  · rw [Nat.zero_add]; simp [World.cell?, h]; simpa using hj
  · cases hj

theorem Row.drewN {W : World} {a : Option Addr} {n : Nat} {vs : List Value} (h : Row W a n vs) (m : Nat) : Row (W.drewN m) a n vs := Row.below' h (below_drewN (Below.refl _ _) m)
theorem map_drewN {W : World} {mb nm : Nat} {D : DataW Unit} (h : W.ownsMap Try.prog 9 (plainElem (H := Unit) Try.prog 3) mb nm D) (m : Nat) : (W.drewN m).ownsMap Try.prog 9 (plainElem (H := Unit) Try.prog 3) mb nm D := h.kept (grown_of_below (below_drewN (Below.refl _ _) m) none) (by simp)

theorem zzNew_nil (i f qt qc pl ef ev : Int) (ed : Bool) (la : Option Addr) (n lc : Nat) (size : Int) (w : World) :
    Calls Try.prog 11 #[.int .u16 i, .int .u16 f, .slice none 0 0, .slice la n lc, .int .u16 qt, .int .u16 qc, .bool ed, .int .u16 pl, .int .u16 ef, .int .u8 ev, .int .i64 size] w fun e w' =>
      ∃ gb mb, e = .returned (.tuple #[.slice (some ⟨gb, 0, none⟩) 12 512, .int .i64 (lim ed size), .map (some mb), .slice none 0 0, .agg #[.int .u16 0, .int .u16 0, .int .u16 0, .int .u16 0], .int .i64 1, .bool false, .bool false]) ∧ Below w.heap.size w w' ∧
        Byts w' (some ⟨gb, 0, none⟩) 12 (List.replicate 12 0) ∧ w'.ownsMap Try.prog 9 (plainElem (H := Unit) Try.prog 3) mb 0 (.map []) := by
  refine (zzNew_of i f qt qc pl ef ev ed none 0 0 la n lc size w (fun s W1 W2 bv lm mb av cn => bv = .slice (some ⟨s, 0, none⟩) 12 512 ∧ lm = lim ed size ∧ mb = s + 1 ∧ av = .slice none 0 0 ∧ cn = 0 ∧ Begun W1 (w.heap.size + 1) ed (.slice none 0 0) (.slice la n lc) (lim ed size) W2) ?_).mono ?_
  · intro W1 hb1 hQ
    refine (newMessage_nil (w.heap.size + 1) i f qt qc pl ef ev ed _ size W1 hQ).mono ?_
    rintro e W2 ⟨rfl, hB⟩
    exact ⟨_, _, _, _, _, _, rfl, by omega, hB.below, hB.msg, rfl, rfl, rfl, rfl, rfl, hB⟩
  · rintro e w' ⟨bv, lm, mb, av, cn, W1, W2, rfl, hs, hb1, hb2, ⟨rfl, rfl, rfl, rfl, rfl, hB⟩, m, rfl⟩
    refine ⟨W1.heap.size, W1.heap.size + 1, rfl, ?_, ?_, ?_⟩
    · exact below_drewN (Below.four (hb1.trans (hb2.mono (by omega))) (Nat.le_refl _) _ _ _ _) m
    · exact Row.drewN (Row.four (row512_byts hB.buf) (.inr ⟨_, _, rfl, by omega⟩) _ _ _ _) m
    · exact map_drewN (map_four hB.names (by omega) _ _ _ _) m

theorem zzNew_some (i f qt qc' pl ef ev : Int) (ed : Bool) (ad : Addr) (qn qc : Nat) (qs : List UInt8) (la : Option Addr) (n lc : Nat) (xs : List ByteArray) (size : Int) (w : World)
    (hq : Byts w (some ad) qn qs) (hl : Strs w la n xs) (hlc : n ≤ lc) (hqn : qn ≤ 1048576) (hn : n ≤ 4096) (ht : tot xs n ≤ 16384) :
    Calls Try.prog 11 #[.int .u16 i, .int .u16 f, .slice (some ad) qn qc, .slice la n lc, .int .u16 qt, .int .u16 qc', .bool ed, .int .u16 pl, .int .u16 ef, .int .u8 ev, .int .i64 size] w fun e w' =>
      ∃ gb cap mb nm aa ac, e = .returned (.tuple #[.slice (some ⟨gb, 0, none⟩) (12 + qn) cap, .int .i64 (lim ed size), .map (some mb), .slice aa (n - kp xs n) ac, .agg #[.int .u16 1, .int .u16 0, .int .u16 0, .int .u16 0], .int .i64 1, .bool false, .bool false]) ∧ Below w.heap.size w w' ∧
        Byts w' (some ⟨gb, 0, none⟩) (12 + qn) (List.replicate 12 0 ++ qs) ∧ w'.ownsMap Try.prog 9 (plainElem (H := Unit) Try.prog 3) mb nm (nmD xs (kp xs n) n) ∧ Strs w' aa (n - kp xs n) (kyL xs (kp xs n) n) ∧ 12 + qn ≤ cap := by
  refine (zzNew_of i f qt qc' pl ef ev ed (some ad) qn qc la n lc size w (fun s W1 W2 bv lm mb av cn => lm = lim ed size ∧ mb = s + 1 ∧ cn = 1 ∧ ∃ gb cap O K nm, bv = .slice (some ⟨gb, 0, none⟩) (12 + qn) cap ∧ Run W1 gb O K (.slice (some ⟨gb, 0, none⟩) (12 + qn) cap) (lim ed size) 1 (nmD xs (kp xs n) n) nm av (n - kp xs n) (kyL xs (kp xs n) n) W2 ∧ Byts W2 (some ⟨gb, 0, none⟩) (12 + qn) (List.replicate 12 0 ++ qs) ∧ 12 + qn ≤ cap) ?_).mono ?_
  · intro W1 hb1 hQ
    refine (newMessage_some (w.heap.size + 1) i f qt qc' pl ef ev ed ad qn qc qs la n lc xs size W1 hQ (Row.below' hq hb1) (Row.below' hl hb1) hlc hqn hn ht).mono ?_
    rintro e W2 ⟨rfl, gb, cap, O, K, nm, av, hR, hY, hcp⟩
    exact ⟨_, _, _, _, _, _, rfl, by omega, hR.below, hR.msg, rfl, rfl, rfl, gb, cap, O, K, nm, rfl, hR, hY, hcp⟩
  · rintro e w' ⟨bv, lm, mb, av, cn, W1, W2, rfl, hs, hb1, hb2, ⟨rfl, rfl, rfl, gb, cap, O, K, nm, rfl, hR, hY, hcp⟩, m, rfl⟩
    obtain ⟨aa, ac, rfl⟩ := own_shape hR.own
    obtain ⟨hS, hK⟩ := own_strs hR.own
    have hg := hR.hg0
    have hKK := hR.hK
    refine ⟨gb, cap, W1.heap.size + 1, nm, aa, ac, rfl, ?_, ?_, ?_, ?_, hcp⟩
    · exact below_drewN (Below.four (hb1.trans (hb2.mono (by omega))) (Nat.le_refl _) _ _ _ _) m
    · exact Row.drewN (Row.four hY (.inr ⟨_, _, rfl, by omega⟩) _ _ _ _) m
    · exact map_drewN (map_four hR.names (by omega) _ _ _ _) m
    · exact Row.drewN (Row.four hS (either hK id fun ⟨b, o, e, hb⟩ => ⟨b, o, e, by omega⟩) _ _ _ _) m
end Go.Proofs.Qxb6605469a
