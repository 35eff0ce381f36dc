import Derived.Test.Qxb6604722aModel
namespace Go.Proofs.Qxb6604722a
open Go.ChangeShapes Go.WideShapes Go.ChangeAt Go.RowKit
open Pl

/-- A row of bytes of the call's own that holds 'acc'. -/
structure Buf (w wr : World) (v : Value) (acc : List UInt8) : Prop where
  bel : Below w.heap.size w wr
  own : wr.ownsRow w.heap.size 5 1 v acc.length (Lib.byteCells acc)

theorem Buf.step {w wr w1 : World} {v v' : Value} {acc : List UInt8} {c : UInt8} {o : Obj} {m : Nat} (h : Buf w wr v acc)
    (hown : w1.ownsRow w.heap.size 5 1 v' m (Lib.byteCells acc ++ [.int .u8 (c.toNat : Int)])) (hg : (wr.alloc o).grownBy w1 v.ownBlock) (hm : m = acc.length + 1) :
    ∃ a cap, v' = .slice a m cap ∧ Buf w w1 (.slice a m cap) (acc ++ [c]) := by
  obtain ⟨a, cap, hv⟩ := own_shape hown
  subst hv
  refine ⟨a, cap, rfl, ?_, ?_⟩
  · exact (h.bel.alloc h.bel.size _).grown hg (by have := h.bel.size; simp; omega) (fun k hk => (h.own.lt k hk).1)
  · rw [byteCells_snoc]; rw [hm] at hown ⊢; simpa using hown

/-- 'v' between two quotes, its quotes doubled. -/
def dlit (q : UInt8) (v : ByteArray) : List UInt8 := q :: dbl q v.data.toList ++ [q]

def dl (q : UInt8) (v : ByteArray) (k : Nat) : List UInt8 := q :: dbl q (v.data.toList.take k)

theorem dl_len (q : UInt8) (v : ByteArray) (k : Nat) : (dl q v k).length ≤ 2 * k + 1 := by
  have := (dbl_length q (v.data.toList.take k)).2
  have h2 : (v.data.toList.take k).length ≤ k := List.length_take_le _ _
  simp [dl]; omega

theorem take_snoc (s : ByteArray) (k : Nat) (h : k < s.size) : s.data.toList.take (k + 1) = s.data.toList.take k ++ [s[k]] := by
  rw [List.take_succ_eq_append_getElem (by rw [len_size]; exact h), at_list s k h]

theorem dl_same {q : UInt8} {v : ByteArray} {k : Nat} (h : k < v.size) (hc : v[k] = q) : dl q v (k + 1) = dl q v k ++ [v[k]] ++ [q] := by
  simp [dl, take_snoc v k h, dbl_append, dbl, hc]
theorem dl_other {q : UInt8} {v : ByteArray} {k : Nat} (h : k < v.size) (hc : v[k] ≠ q) : dl q v (k + 1) = dl q v k ++ [v[k]] := by
  simp [dl, take_snoc v k h, dbl_append, dbl, hc]

set_option maxHeartbeats 2000000 in
theorem doubled_any (v : ByteArray) (q : UInt8) (w : World) (hs : v.size ≤ 1048576) :
    Calls Try.prog 13 #[.string v, .int .u8 q.toNat] w fun e w' => e = .returned (.string (str (dlit q v))) ∧ Below w.heap.size w w' := by
  obtain ⟨i0, hi, hz0, hz1, hz2⟩ := info_parts info5
  go_enter Try.func13, Try.ntmps13
  go_wp2_with (at_make; refine wpList_make_own _ rfl _ _ 52 rfl w.heap.size 5 i0 (.int .u8 0) 1 Try.underlying52 hi hz0 hz1 .i64 .i64 _ (2 * v.size + 2) rfl rfl (by omega) (by rw [hz2]; omega) (by unfold maxLen; omega) (Nat.le_refl _) ?_)
  intro w0 hown0 hg0
  have hM0 : Buf w w0 (.slice (some ⟨w.heap.size, 0, none⟩) 0 (2 * v.size + 2)) [] := ⟨(Below.refl _ _).grown hg0 (Nat.le_refl _) (fun k hk => by cases hk), hown0⟩
  have HM : Hid (Buf w w0 (.slice (some ⟨w.heap.size, 0, none⟩) 0 (2 * v.size + 2)) []) := hM0
  clear hown0 hg0 hM0
  go_wp2_with (at_builtin; refine wpList_append_own _ rfl _ _ 52 rfl w.heap.size 5 i0 (.int .u8 0) 1 1 Try.underlying52 hi hz0 hz1 hz2 rfl (by decide) _ _ _ rfl (HM.out.own.alloc _) ⟨w0.heap.size, 0, none⟩ 1 1 [.int .u8 (q.toNat : Int)] rfl rfl (one_new _ _ _) (by intro u hu; simp at hu; subst hu; rfl) (by unfold maxLen; simp) (by simp) (by have := HM.out.bel.size; simp; omega) ?_)
  intro v' w1 hown' hgrow hnn
  obtain ⟨a2, cap2, hv, hM2⟩ := HM.out.step hown' hgrow (by simp)
  rw [hv]
  clear hown' hgrow hnn hv v' HM
  go_wp2_with fail
  go_loopg [5, 6] v.size (fun g s i wr => ∃ (k : Nat) (a : Option Addr) (cap : Nat), k + g = v.size ∧ i = .int .i64 k ∧ s = .slice a (dl q v k).length cap ∧ Buf w wr s (dl q v k))
  case atStart => exact ⟨0, _, _, by omega, rfl, by simp [dl, dbl]; exact ⟨rfl, rfl⟩, hM2⟩
  case round =>
    clear hM2
    obtain ⟨k, a, cap, hg, rfl, rfl, hM⟩ := hrel
    have HM : Hid (Buf w wr (.slice a (dl q v k).length cap) (dl q v k)) := hM
    have hal := dl_len q v k
    clear hM
    generalize hd : dl q v k = acc at *
    have HD : Hid (dl q v k = acc) := hd
    clear hd
    by_cases hkn : k < v.size
    · go_wp2_with (at_builtin; refine wpList_append_own _ rfl _ _ 52 rfl w.heap.size 5 i0 (.int .u8 0) 1 1 Try.underlying52 hi hz0 hz1 hz2 rfl (by decide) _ _ _ rfl (HM.out.own.alloc _) ⟨wr.heap.size, 0, none⟩ 1 1 [.int .u8 (v[k].toNat : Int)] rfl rfl (one_new _ _ _) (by intro u hu; simp at hu; subst hu; rfl) (by unfold maxLen; omega) (by omega) (by have := HM.out.bel.size; simp; omega) ?_)
      intro v' w1 hown' hgrow hnn
      obtain ⟨a2, cap2, hv, hM2⟩ := HM.out.step hown' hgrow (by simp)
      rw [hv]
      clear hown' hgrow hnn hv v' HM
      by_cases hc : v[k] = q
      · have hcb : ((v[k].toNat : Int) == (q.toNat : Int)) = true := by rw [hc]; simp
        have HE : Hid (dl q v (k + 1) = acc ++ [v[k]] ++ [q]) := by rw [← HD.out]; exact dl_same hkn hc
        have HM : Hid (Buf w w1 (.slice a2 (acc.length + 1) cap2) (acc ++ [v[k]])) := hM2
        clear hc hM2
        go_wp2_with (at_builtin; refine wpList_append_own _ rfl _ _ 52 rfl w.heap.size 5 i0 (.int .u8 0) 1 1 Try.underlying52 hi hz0 hz1 hz2 rfl (by decide) _ _ _ rfl (HM.out.own.alloc _) ⟨w1.heap.size, 0, none⟩ 1 1 [.int .u8 (q.toNat : Int)] rfl rfl (one_new _ _ _) (by intro u hu; simp at hu; subst hu; rfl) (by unfold maxLen; simp; omega) (by simp; omega) (by have := HM.out.bel.size; simp; omega) ?_)
        intro v' w2 hown' hgrow hnn
        obtain ⟨a3, cap3, hv, hM3⟩ := HM.out.step hown' hgrow (by simp)
        rw [hv]
        clear hown' hgrow hnn hv v' HM
        go_wp2
        go_roundg (gk - 1)
        case measure => omega
        case rel => exact ⟨k + 1, a3, cap3, by omega, by go_num, by rw [HE.out]; simp, by rw [HE.out]; exact hM3⟩
      · have hcb : ((v[k].toNat : Int) == (q.toNat : Int)) = false := by
          simp; intro e; exact hc (UInt8.toNat_inj.1 (by omega))
        have HE : Hid (dl q v (k + 1) = acc ++ [v[k]]) := by rw [← HD.out]; exact dl_other hkn hc
        clear hc
        go_wp2
        go_roundg (gk - 1)
        case measure => omega
        case rel => exact ⟨k + 1, a2, cap2, by omega, by go_num, by rw [HE.out]; simp, by rw [HE.out]; exact hM2⟩
    · go_wp2_with (at_builtin; refine wpList_append_own _ rfl _ _ 52 rfl w.heap.size 5 i0 (.int .u8 0) 1 1 Try.underlying52 hi hz0 hz1 hz2 rfl (by decide) _ _ _ rfl (HM.out.own.alloc _) ⟨wr.heap.size, 0, none⟩ 1 1 [.int .u8 (q.toNat : Int)] rfl rfl (one_new _ _ _) (by intro u hu; simp at hu; subst hu; rfl) (by unfold maxLen; omega) (by omega) (by have := HM.out.bel.size; simp; omega) ?_)
      intro v' w1 hown' hgrow hnn
      obtain ⟨a2, cap2, hv, hM2⟩ := HM.out.step hown' hgrow (by simp)
      rw [hv]
      clear hown' hgrow hnn hv v' HM
      have hconv0 := own_cells hM2.own rfl w1 (fun _ => rfl)
      go_wp2
      go_ret
      have he : acc ++ [q] = dlit q v := by
        rw [← HD.out]
        unfold dl dlit
        rw [List.take_of_length_le (by rw [len_size]; omega)]
      exact ⟨ret_of (by rw [← he]; rfl), hM2.bel⟩
end Go.Proofs.Qxb6604722a
