import Derived.Test.Qxb6605469aLow
import Derived.OwnWalk
import Derived.Maps.AppendAt
set_option linter.unusedSimpArgs false
set_option linter.unusedVariables false
namespace Go.Proofs.Qxb6605469a
open Go.ChangeShapes Go.WideShapes Go.ChangeAt Go.RowKit

/-- The labels as they are written. -/
def encF (xs : List ByteArray) : Nat → List UInt8
  | 0 => []
  | k + 1 => encF xs k ++ (UInt8.ofNat (lbl xs k).size :: (lbl xs k).data.toList)
theorem encF_len (xs : List ByteArray) : ∀ k, (encF xs k).length = fr xs k
  | 0 => rfl
  | k + 1 => by rw [encF, List.length_append, encF_len xs k, fr, List.length_cons, len_size]

/-- A row of bytes of the call's own. -/
structure OwnB (w wr : World) (v : Value) (acc : List UInt8) : Prop where
  bel : Below w.heap.size w wr
  own : wr.ownsRow w.heap.size 5 1 v acc.length (acc.map bv)

theorem OwnB.step {w wr w1 : World} {v v' : Value} {acc : List UInt8} {c : UInt8} {o : Obj} (h : OwnB w wr v acc) (hown : w1.ownsRow w.heap.size 5 1 v' (acc.length + 1) (acc.map bv ++ [.int .u8 (c.toNat : Int)])) (hg : (wr.alloc o).grownBy w1 v.ownBlock) :
    ∃ a cap, v' = .slice a (acc.length + 1) cap ∧ OwnB w w1 (.slice a (acc.length + 1) cap) (acc ++ [c]) := by
  obtain ⟨a, cap, rfl⟩ := own_shape hown
  refine ⟨a, cap, rfl, (h.bel.alloc h.bel.size _).grown hg (by have := h.bel.size; simp; omega) (fun k hk => (h.own.lt k hk).1), ?_⟩
  rw [List.map_append, List.length_append]
  exact hown
theorem OwnB.shape {w wr : World} {v : Value} {acc : List UInt8} (h : OwnB w wr v acc) : ∃ a cap, v = .slice a acc.length cap := own_shape h.own

set_option maxRecDepth 20000 in
set_option maxHeartbeats 4000000 in
theorem encode_any (la : Option Addr) (n lc : Nat) (xs : List ByteArray) (w : World) (hl : Strs w la n xs) (hn : n ≤ 4096) (hsz : ∀ i, i < n → 1 ≤ (lbl xs i).size ∧ (lbl xs i).size ≤ 63) (hf : fr xs n ≤ 254) :
    Calls Try.prog 14 #[.slice la n lc] w fun e w' => ∃ v, e = .returned v ∧ OwnB w w' v (encF xs n) := by
  obtain ⟨i0, hi, hz0, hz1, hz2⟩ := info_parts info5
  have HL : Hid (Strs w la n xs) := hl
  have HZ : Hid (∀ i, i < n → 1 ≤ (lbl xs i).size ∧ (lbl xs i).size ≤ 63) := hsz
  have HFR : Hid (∀ k, k ≤ n → fr xs k ≤ 254) := fun k hk => by
    rcases Nat.lt_or_eq_of_le hk with h | h
    · have := fr_lt xs h; omega
    · rw [h]; exact hf
  clear hl hsz
  go_enter Try.func14, Try.ntmps14
  go_wp2_with fail
  go_loopg [3, 4] (n + 1) (fun g v x wr => ∃ k : Nat, k + g = n + 1 ∧ k ≤ n ∧ x = .int .i64 k ∧ OwnB w wr v (encF xs k))
  case atStart => exact ⟨0, by omega, Nat.zero_le _, rfl, Below.refl _ _, World.ownsRow_nil _ _ _ _⟩
  case round =>
    obtain ⟨k, hg, hk, rfl, hO⟩ := hrel
    obtain ⟨a, cap, rfl⟩ := hO.shape
    have HO : Hid (OwnB w wr (.slice a (encF xs k).length cap) (encF xs k)) := hO
    clear hO
    have hfk := HFR.out k hk
    have hlk : (encF xs k).length = fr xs k := encF_len xs k
    by_cases hlt : k < n
    · have hw : Strs wr la n xs := HL.out.below HO.out.bel (either HL.out.2 id fun ⟨b, o, e, hb, _⟩ => ⟨b, o, e, hb⟩)
      obtain ⟨b, o, rfl, hck, _⟩ := hw.at k hlt
      obtain ⟨hs1, hs2⟩ := HZ.out k hlt
      have hs1' : 1 ≤ (xs.getD k ByteArray.empty).size := hs1
      have hs2' : (xs.getD k ByteArray.empty).size ≤ 63 := hs2
      have hbl : b < w.heap.size := by
        obtain ⟨_, h0 | ⟨b', o', e, hb, _⟩⟩ := HL.out
        · omega
        · injection e with e; injection e with e1 _ _; omega
      have HE : Hid (encF xs (k + 1) = encF xs k ++ (UInt8.ofNat (xs.getD k ByteArray.empty).size :: (xs.getD k ByteArray.empty).data.toList)) := rfl
      have HFk : Hid (fr xs (k + 1) = fr xs k + ((xs.getD k ByteArray.empty).size + 1)) := rfl
      have hfk1 := HFR.out (k + 1) hlt
      clear hw hs1 hs2
      generalize xs.getD k ByteArray.empty = x at hck hs1' hs2' HE HFk
      have HCK : Hid (∀ W, Below w.heap.size w W → W.cell? ⟨b, o + k, none⟩ = some (.string x)) := fun W hW => by
        have h1 := (HO.out.bel.cell (p := ⟨b, o + k, none⟩) hbl).symm.trans hck
        exact (hW.cell (p := ⟨b, o + k, none⟩) hbl).trans h1
      have hc : ((UInt8.ofNat x.size).toNat : Int) = (x.size : Int) := by
        rw [UInt8.toNat_ofNat_of_lt' (by show x.size < 256; omega)]
      have hwr : IntKind.u8.wrap (x.size : Int) = (x.size : Int) := by unfold IntKind.wrap; simp [IntKind.bits, IntKind.signed]; omega
      have hwb : w.heap.size ≤ wr.heap.size := HO.out.bel.size
      go_wp2_with (at_builtin; refine wpList_append_own _ rfl _ _ 23 rfl w.heap.size 5 i0 (.int .u8 0) 1 1 Try.underlying23 hi hz0 hz1 hz2 rfl (by decide) _ _ _ rfl (HO.out.own.alloc _) ⟨wr.heap.size, 0, none⟩ 1 1 [.int .u8 (x.size : Int)] rfl rfl (cell_one_new _ _ _) (by intro u hu; simp at hu; subst hu; rfl) (by unfold maxLen; omega) (by omega) (by simp; omega) ?_)
      intro v' w1 hown' hgrow hnn
      obtain ⟨a2, cap2, hv, hO2⟩ := HO.out.step (c := UInt8.ofNat x.size) (by rw [hc, hlk]; exact hown') (by first | exact hgrow | (rw [hlk]; exact hgrow))
      rw [hv, hlk]
      have HO2 : Hid (OwnB w w1 (.slice a2 (fr xs k + 1) cap2) (encF xs k ++ [UInt8.ofNat x.size])) := by rw [← hlk]; exact hO2
      clear hown' hgrow hnn hv hO2 hck HO hwb hc hwr v'
      go_wp2_with fail
      go_loopg [3, 5] (x.size + 1) (fun g v y wi => ∃ t : Nat, t + g = x.size + 1 ∧ t ≤ x.size ∧ y = .int .i64 t ∧ OwnB w wi v (encF xs k ++ (UInt8.ofNat x.size :: x.data.toList.take t)))
      case atStart => exact ⟨0, by omega, Nat.zero_le _, rfl, by simp only [List.take_zero]; have := HO2.out; simpa using this⟩
      case round =>
        clear HO2
        obtain ⟨t, hgt, ht, rfl, hO⟩ := hrel
        have hal : (encF xs k ++ (UInt8.ofNat x.size :: x.data.toList.take t)).length = fr xs k + 1 + t := by
          rw [List.length_append, hlk, List.length_cons, List.length_take, len_size]; omega
        have HNX : Hid (t < x.size → ∀ h : t < x.size, encF xs k ++ (UInt8.ofNat x.size :: x.data.toList.take (t + 1)) = (encF xs k ++ (UInt8.ofNat x.size :: x.data.toList.take t)) ++ [x[t]]) := fun _ htx => by
          have hnx : x.data.toList.take (t + 1) = x.data.toList.take t ++ [x[t]] := by
            rw [List.take_add_one, List.getElem?_eq_getElem (by rw [len_size]; exact htx), at_list x t htx]; rfl
          rw [hnx]; simp
        have HFU : Hid (¬ t < x.size → encF xs k ++ (UInt8.ofNat x.size :: x.data.toList.take t) = encF xs (k + 1)) := fun htx => by
          rw [HE.out, List.take_of_length_le (by rw [len_size]; omega)]
        generalize encF xs k ++ (UInt8.ofNat x.size :: x.data.toList.take t) = acc at hO hal HNX HFU
        obtain ⟨a3, cap3, rfl⟩ := hO.shape
        have HO : Hid (OwnB w wr (.slice a3 acc.length cap3) acc) := hO
        have hck := HCK.out _ hO.bel
        have hwb := hO.bel.size
        clear hO
        by_cases htx : t < x.size
        · have HO' : Hid (wr.ownsRow w.heap.size 5 1 (.slice a3 (fr xs k + 1 + t) cap3) (fr xs k + 1 + t) (acc.map bv)) := by have := HO.out.own; rw [hal] at this; exact this
          rw [hal]
          go_wp2_with (at_builtin; refine wpList_append_own _ rfl _ _ 23 rfl w.heap.size 5 i0 (.int .u8 0) 1 1 Try.underlying23 hi hz0 hz1 hz2 rfl (by decide) _ _ _ rfl (HO'.out.alloc _) ⟨wr.heap.size, 0, none⟩ 1 1 [.int .u8 (x[t].toNat : Int)] rfl rfl (cell_one_new _ _ _) (by intro u hu; simp at hu; subst hu; rfl) (by unfold maxLen; omega) (by omega) (by simp; omega) ?_)
          intro v' w2 hown' hgrow hnn
          obtain ⟨a4, cap4, hv, hO2⟩ := HO.out.step (c := x[t]) (by rw [hal]; exact hown') (by first | exact hgrow | (rw [hal]; exact hgrow))
          rw [hv]
          have HO2 : Hid (OwnB w w2 (.slice a4 (acc.length + 1) cap4) (acc ++ [x[t]])) := hO2
          clear hown' hgrow hnn hv hO2 hck HO HO' hwb
          go_wp2
          go_roundg (gk - 1)
          case measure => omega
          case rel => exact ⟨t + 1, by omega, by omega, by go_num, by rw [HNX.out htx htx]; exact HO2.out⟩
        · have HOe : Hid (OwnB w wr (.slice a3 acc.length cap3) (encF xs (k + 1))) := by rw [← HFU.out htx]; exact HO.out
          clear HO
          go_wp2
          go_roundg (n + 1 - (k + 1))
          case measure => omega
          case rel => exact ⟨k + 1, by omega, by omega, by go_num, HOe.out⟩
    · obtain rfl : k = n := by omega
      go_wp2
      go_ret
      exact ⟨_, rfl, HO.out⟩
end Go.Proofs.Qxb6605469a
