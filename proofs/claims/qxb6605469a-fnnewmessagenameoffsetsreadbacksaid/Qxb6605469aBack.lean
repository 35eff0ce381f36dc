import Derived.Test.Qxb6605469aEx
import Derived.Test.Qxb6605469aRdN
import Derived.Test.Qxb6605469aSame
set_option linter.unusedSimpArgs false
set_option linter.unusedVariables false
namespace Go.Proofs.Qxb6605469a
open Go.ChangeShapes Go.WideShapes Go.ChangeAt Go.RowKit
open Go.Maps

theorem u8wrap (z : Int) : 0 ≤ IntKind.u8.wrap z ∧ IntKind.u8.wrap z ≤ 255 := by
  unfold IntKind.wrap
  simp only [IntKind.bits, IntKind.signed]
  simp
  omega
theorem u8_of {z : Int} (h : 0 ≤ z ∧ z ≤ 255) : ∃ c : UInt8, (c.toNat : Int) = z := ⟨UInt8.ofNat z.toNat, by rw [UInt8.toNat_ofNat_of_lt' (by show z.toNat < 256; omega)]; omega⟩
theorem kp_zero {xs : List ByteArray} : ∀ {n : Nat}, (∀ j, j < n → dot (lbl xs j) = false) → kp xs n = 0
  | 0, _ => rfl
  | n + 1, h => by rw [kp, h n (Nat.lt_succ_self _)]; simp only [Bool.false_eq_true, if_false]; exact kp_zero (fun j hj => h j (by omega))
theorem OwnB.step2 {w wr w1 : World} {a : Option Addr} {cap L : Nat} {v' : Value} {acc : List UInt8} {c : UInt8} {z : Int} {o : Obj} (hL : acc.length = L) (h : OwnB w wr (.slice a L cap) acc) (hz : (c.toNat : Int) = z) (hown : w1.ownsRow w.heap.size 5 1 v' (L + 1) (acc.map bv ++ [.int .u8 z])) (hg : (wr.alloc o).grownBy w1 (Value.slice a L cap).ownBlock) :
    ∃ a' cap', v' = .slice a' (L + 1) cap' ∧ OwnB w w1 (.slice a' (L + 1) cap') (acc ++ [c]) ∧ (acc ++ [c]).length = L + 1 := by
  subst hL hz
  obtain ⟨a', cap', rfl, h2⟩ := h.step hown hg
  exact ⟨a', cap', rfl, h2, by simp⟩
theorem OwnB.row {w wr : World} {a : Option Addr} {cap L : Nat} {acc : List UInt8} (h : OwnB w wr (.slice a L cap) acc) (hL : acc.length = L) : wr.ownsRow w.heap.size 5 1 (.slice a L cap) L (acc.map bv) := by
  have := h.own; rw [hL] at this; exact this
theorem own_byts {W : World} {K : Nat} {v : Value} {bs : List UInt8} (h : W.ownsRow K 5 1 v bs.length (bs.map bv)) (h0 : 0 < bs.length) : ∃ g cap, v = .slice (some ⟨g, 0, none⟩) bs.length cap ∧ Byts W (some ⟨g, 0, none⟩) bs.length bs := by
  obtain ⟨hl, ⟨h1, h2⟩ | ⟨g, cap, cur, h1, h2, h3, h4, h5, h6, h7⟩⟩ := h
  · omega
  · refine ⟨g, cap, h1, by simp, .inr ⟨g, 0, rfl, (Array.getElem?_eq_some_iff.1 h3).1, fun j x hj => ?_⟩⟩
    rw [← h7, List.getElem?_take] at hj
    split at hj
    · rw [Nat.zero_add]; simp [World.cell?, h3]; simpa using hj
    · cases hj

/-- What the law's end reads. -/
structure Stuff2 (w0 : World) (la : Option Addr) (k : Nat) (xs : List ByteArray) (gb N mb nm : Nat) (bs : List UInt8) (W : World) : Prop where
  l : Strs W la k xs
  b : Below w0.heap.size w0 W
  y : Byts W (some ⟨gb, 0, none⟩) N bs
  g : gb < W.heap.size
  m : W.ownsMap Try.prog 9 (plainElem (H := Unit) Try.prog 3) mb nm (nmD xs 0 k)
theorem Stuff2.grown {w0 : World} {la : Option Addr} {k : Nat} {xs : List ByteArray} {gb N mb nm : Nat} {bs : List UInt8} {W W' : World} (h : Stuff2 w0 la k xs gb N mb nm bs W) (hb : Below W.heap.size W W') : Stuff2 w0 la k xs gb N mb nm bs W' :=
  ⟨Row.below' h.l hb, h.b.trans (hb.mono h.b.size), Row.below' h.y hb, Nat.lt_of_lt_of_le h.g hb.size, h.m.kept (grown_of_below hb none) (by simp)⟩
theorem Byts.blk {W : World} {g n : Nat} {bs : List UInt8} (h : Byts W (some ⟨g, 0, none⟩) n bs) (hn : 0 < n) : g < W.heap.size := by
  obtain ⟨_, h0 | ⟨b, o, e, hb, _⟩⟩ := h
  · omega
  · injection e with e; injection e with e1 _ _; omega

set_option maxRecDepth 20000 in
set_option maxHeartbeats 8000000 in
theorem back_main (la : Option Addr) (n lc : Nat) (xs : List ByteArray) (qt qc : Int) (w : World) (hl : Strs w la n xs) (hln : la = none → n = 0 ∧ lc = 0) (hnm : n ≤ maxLen) (hxm : ∀ x ∈ xs, x.size ≤ maxLen) :
    Calls Try.prog 4 #[.slice la n lc, .int .u16 qt, .int .u16 qc] w fun e w' => e = .returned (.bool true) ∧ Below w.heap.size w w' := by
  have HZ := zzBytes2_any qt qc la n lc xs w hl hnm hxm
  obtain ⟨i0, hi, hz0, hz1, hz2⟩ := info_parts info5
  unfold maxLen at hnm
  by_cases h2 : 4096 < n
  · go_enter Try.func4, Try.ntmps4
    go_wp2_with fail
    refine HZ.mono ?_
    rintro e w' ⟨b, rfl, rfl⟩
    cases b
    · go_wp2; go_ret; exact ⟨rfl, Below.refl _ _⟩
    · go_wp2; go_ret; exact ⟨rfl, Below.refl _ _⟩
  go_enter Try.func4, Try.ntmps4
  go_wp2_with fail
  refine HZ.mono ?_
  rintro e w' ⟨b, rfl, rfl⟩
  clear HZ
  cases b
  · go_wp2; go_ret; exact ⟨rfl, Below.refl _ _⟩
  go_wp2_with fail
  have HL : Hid (Strs w' la n xs) := hl
  have HX : Hid (∀ x ∈ xs, x.size ≤ maxLen) := hxm
  clear hl hxm
  go_loopw [8, 7] (fun x t wr => wr = w' ∧ ∃ k : Nat, k ≤ n ∧ x = .int .i64 k ∧ t = .int .i64 (fr xs k) ∧ fr xs k ≤ k * 64 ∧ Hid (∀ j, j < k → 1 ≤ (lbl xs j).size ∧ (lbl xs j).size ≤ 63 ∧ dot (lbl xs j) = false)) (fun x _ _ => n - (intOf x).toNat)
  case atStart => exact ⟨rfl, 0, Nat.zero_le _, rfl, rfl, Nat.zero_le _, fun j hj => by omega⟩
  case round =>
    obtain ⟨rfl, k, hk, rfl, rfl, htk, HS⟩ := hrel
    by_cases hlt : k < n
    · obtain ⟨b, o, rfl, hck, hmem⟩ := HL.out.at k hlt
      have hxs := HX.out _ hmem
      have HT : Hid (fr xs (k + 1) = fr xs k + ((xs.getD k ByteArray.empty).size + 1)) := rfl
      have HS2 : Hid (1 ≤ (xs.getD k ByteArray.empty).size → (xs.getD k ByteArray.empty).size ≤ 63 → dot (xs.getD k ByteArray.empty) = false → ∀ j, j < k + 1 → 1 ≤ (lbl xs j).size ∧ (lbl xs j).size ≤ 63 ∧ dot (lbl xs j) = false) := fun q1 q2 q3 j hj => by
        by_cases e : j = k
        · subst e; exact ⟨q1, q2, q3⟩
        · exact HS.out j (by omega)
      unfold maxLen at hxs
      generalize xs.getD k ByteArray.empty = x at hck hxs HT HS2
      clear hmem HS
      by_cases c1 : x.size < 1
      · go_wp2
        go_ret
        exact ⟨rfl, Below.refl _ _⟩
      by_cases c2 : 63 < x.size
      · go_wp2
        go_ret
        exact ⟨rfl, Below.refl _ _⟩
      cases hd : dot x
      · go_wp2_with (go_at_call 12; refine (hasDot_any x _ (by omega)).mono ?_; rintro e w' ⟨rfl, rfl⟩; rw [hd])
        go_roundw
        case rel => exact ⟨trivial, k + 1, by omega, by go_num, by rw [HT.out]; go_num, by rw [HT.out]; omega, HS2.out (by omega) (by omega) hd⟩
        case measure => simp [intOf]; omega
      · go_wp2_with (go_at_call 12; refine (hasDot_any x _ (by omega)).mono ?_; rintro e w' ⟨rfl, rfl⟩; rw [hd])
        go_ret
        exact ⟨rfl, Below.refl _ _⟩
    · obtain rfl : k = n := by omega
      clear HX hlt
      by_cases c1 : 254 < fr xs k
      · go_wp2
        go_ret
        exact ⟨rfl, Below.refl _ _⟩
      go_wp2_with fail
      refine (copyStrings_any la k lc xs _ (by omega) HL.out hln).mono ?_
      rintro e W1 ⟨la', rfl, hb1, hl1, hn1, hlo⟩
      have HL1 : Hid (Strs W1 la' k xs) := hl1
      have HB1 : Hid (Below wr.heap.size wr W1) := hb1
      clear hb1 hl1 hlo HL
      have HSZ : Hid (∀ j, j < k → 1 ≤ (lbl xs j).size ∧ (lbl xs j).size ≤ 63) := fun j hj => ⟨(HS.out j hj).1, (HS.out j hj).2.1⟩
      have HKP : Hid (kp xs k = 0) := kp_zero (fun j hj => (HS.out j hj).2.2)
      clear HS
      go_wp2_with fail
      refine (encode_any la' k k xs W1 HL1.out (by omega) HSZ.out (by omega)).mono ?_
      rintro e W2 ⟨v, rfl, hO⟩
      obtain ⟨a2, ac2, rfl⟩ := hO.shape
      have HO2 : Hid (OwnB W1 W2 (.slice a2 (encF xs k).length ac2) (encF xs k)) := hO
      have hel := encF_len xs k
      have hw2 := hO.bel.size
      clear hO
      rw [hel] at HO2 ⊢
      obtain ⟨acc0, hacc0⟩ : ∃ acc0, acc0 = encF xs k := ⟨_, rfl⟩
      rw [← hacc0] at HO2 hel
      have HAC0 : Hid (acc0 = encF xs k) := hacc0
      have HR2 : Hid (W2.ownsRow W1.heap.size 5 1 (.slice a2 (fr xs k) ac2) (fr xs k) (acc0.map bv)) := HO2.out.row hel
      have HEL : Hid (acc0.length = fr xs k) := hel
      clear hacc0 hel
      go_wp2_with (at_builtin; refine wpList_append_own _ rfl _ _ 23 rfl W1.heap.size 5 i0 (.int .u8 0) 1 1 Try.underlying23 hi hz0 hz1 hz2 rfl (by decide) _ _ _ rfl (HR2.out.alloc _) ⟨W2.heap.size, 0, none⟩ 1 1 [.int .u8 0] rfl rfl (cell_one_new _ _ _) (by intro u hu; simp at hu; subst hu; rfl) (by unfold maxLen; omega) (by omega) (by simp; omega) ?_)
      intro v3 W3 hown hgrow hnn
      obtain ⟨a3, ac3, hv, hO3, hel3⟩ := OwnB.step2 (c := 0) HEL.out HO2.out rfl hown hgrow
      rw [hv]
      have HO3 : Hid (OwnB W1 W3 (.slice a3 (fr xs k + 1) ac3) (acc0 ++ [0])) := hO3
      have hw3 := hO3.bel.size
      have HEL3 : Hid ((acc0 ++ [0]).length = fr xs k + 1) := hel3
      have HAC3 : Hid (acc0 ++ [0] = encF xs k ++ 0 :: []) := by rw [HAC0.out]; exact rfl
      clear hown hgrow hnn hv hO3 HO2 HR2 HEL HAC0 hw2 hel3 v3
      generalize acc0 ++ [0] = acc3 at HO3 HEL3 HAC3
      have HR3 : Hid (W3.ownsRow W1.heap.size 5 1 (.slice a3 (fr xs k + 1) ac3) (fr xs k + 1) (acc3.map bv)) := HO3.out.row HEL3.out
      obtain ⟨b1, hb1⟩ := u8_of (z := qt / 256 % 256) (by omega)
      go_wp2_with (at_builtin; refine wpList_append_own _ rfl _ _ 23 rfl W1.heap.size 5 i0 (.int .u8 0) 1 1 Try.underlying23 hi hz0 hz1 hz2 rfl (by decide) _ _ _ rfl (HR3.out.alloc _) ⟨W3.heap.size, 0, none⟩ 1 1 [.int .u8 (qt / 256 % 256)] rfl rfl (cell_one_new _ _ _) (by intro u hu; simp at hu; subst hu; rfl) (by unfold maxLen; omega) (by omega) (by simp; omega) ?_)
      intro v4 W4 hown hgrow hnn
      obtain ⟨a4, ac4, hv, hO4, hel4⟩ := OwnB.step2 (c := b1) HEL3.out HO3.out hb1 hown hgrow
      rw [hv]
      have HO4 : Hid (OwnB W1 W4 (.slice a4 (fr xs k + 2) ac4) (acc3 ++ [b1])) := hO4
      have hw4 := hO4.bel.size
      have HEL4 : Hid ((acc3 ++ [b1]).length = fr xs k + 2) := hel4
      have HAC4 : Hid (acc3 ++ [b1] = encF xs k ++ 0 :: [b1]) := by rw [HAC3.out]; show _ = _; simp
      clear hown hgrow hnn hv hO4 HO3 HR3 HEL3 HAC3 hw3 hel4 v4 hb1
      generalize acc3 ++ [b1] = acc4 at HO4 HEL4 HAC4
      have HR4 : Hid (W4.ownsRow W1.heap.size 5 1 (.slice a4 (fr xs k + 2) ac4) (fr xs k + 2) (acc4.map bv)) := HO4.out.row HEL4.out
      obtain ⟨b2, hb2⟩ := u8_of (z := qt % 256) (by omega)
      go_wp2_with (at_builtin; refine wpList_append_own _ rfl _ _ 23 rfl W1.heap.size 5 i0 (.int .u8 0) 1 1 Try.underlying23 hi hz0 hz1 hz2 rfl (by decide) _ _ _ rfl (HR4.out.alloc _) ⟨W4.heap.size, 0, none⟩ 1 1 [.int .u8 (qt % 256)] rfl rfl (cell_one_new _ _ _) (by intro u hu; simp at hu; subst hu; rfl) (by unfold maxLen; omega) (by omega) (by simp; omega) ?_)
      intro v5 W5 hown hgrow hnn
      obtain ⟨a5, ac5, hv, hO5, hel5⟩ := OwnB.step2 (c := b2) HEL4.out HO4.out hb2 hown hgrow
      rw [hv]
      have HO5 : Hid (OwnB W1 W5 (.slice a5 (fr xs k + 3) ac5) (acc4 ++ [b2])) := hO5
      have hw5 := hO5.bel.size
      have HEL5 : Hid ((acc4 ++ [b2]).length = fr xs k + 3) := hel5
      have HAC5 : Hid (acc4 ++ [b2] = encF xs k ++ 0 :: [b1, b2]) := by rw [HAC4.out]; show _ = _; simp
      clear hown hgrow hnn hv hO5 HO4 HR4 HEL4 HAC4 hw4 hel5 v5 hb2
      generalize acc4 ++ [b2] = acc5 at HO5 HEL5 HAC5
      have HR5 : Hid (W5.ownsRow W1.heap.size 5 1 (.slice a5 (fr xs k + 3) ac5) (fr xs k + 3) (acc5.map bv)) := HO5.out.row HEL5.out
      obtain ⟨b3, hb3⟩ := u8_of (z := qc / 256 % 256) (by omega)
      go_wp2_with (at_builtin; refine wpList_append_own _ rfl _ _ 23 rfl W1.heap.size 5 i0 (.int .u8 0) 1 1 Try.underlying23 hi hz0 hz1 hz2 rfl (by decide) _ _ _ rfl (HR5.out.alloc _) ⟨W5.heap.size, 0, none⟩ 1 1 [.int .u8 (qc / 256 % 256)] rfl rfl (cell_one_new _ _ _) (by intro u hu; simp at hu; subst hu; rfl) (by unfold maxLen; omega) (by omega) (by simp; omega) ?_)
      intro v6 W6 hown hgrow hnn
      obtain ⟨a6, ac6, hv, hO6, hel6⟩ := OwnB.step2 (c := b3) HEL5.out HO5.out hb3 hown hgrow
      rw [hv]
      have HO6 : Hid (OwnB W1 W6 (.slice a6 (fr xs k + 4) ac6) (acc5 ++ [b3])) := hO6
      have hw6 := hO6.bel.size
      have HEL6 : Hid ((acc5 ++ [b3]).length = fr xs k + 4) := hel6
      have HAC6 : Hid (acc5 ++ [b3] = encF xs k ++ 0 :: [b1, b2, b3]) := by rw [HAC5.out]; show _ = _; simp
      clear hown hgrow hnn hv hO6 HO5 HR5 HEL5 HAC5 hw5 hel6 v6 hb3
      generalize acc5 ++ [b3] = acc6 at HO6 HEL6 HAC6
      have HR6 : Hid (W6.ownsRow W1.heap.size 5 1 (.slice a6 (fr xs k + 4) ac6) (fr xs k + 4) (acc6.map bv)) := HO6.out.row HEL6.out
      obtain ⟨b4, hb4⟩ := u8_of (z := qc % 256) (by omega)
      go_wp2_with (at_builtin; refine wpList_append_own _ rfl _ _ 23 rfl W1.heap.size 5 i0 (.int .u8 0) 1 1 Try.underlying23 hi hz0 hz1 hz2 rfl (by decide) _ _ _ rfl (HR6.out.alloc _) ⟨W6.heap.size, 0, none⟩ 1 1 [.int .u8 (qc % 256)] rfl rfl (cell_one_new _ _ _) (by intro u hu; simp at hu; subst hu; rfl) (by unfold maxLen; omega) (by omega) (by simp; omega) ?_)
      intro v7 W7 hown hgrow hnn
      obtain ⟨a7, ac7, hv, hO7, hel7⟩ := OwnB.step2 (c := b4) HEL6.out HO6.out hb4 hown hgrow
      rw [hv]
      have HO7 : Hid (OwnB W1 W7 (.slice a7 (fr xs k + 5) ac7) (acc6 ++ [b4])) := hO7
      have hw7 := hO7.bel.size
      have HEL7 : Hid ((acc6 ++ [b4]).length = fr xs k + 5) := hel7
      have HAC7 : Hid (acc6 ++ [b4] = encF xs k ++ 0 :: [b1, b2, b3, b4]) := by rw [HAC6.out]; show _ = _; simp
      clear hown hgrow hnn hv hO7 HO6 HR6 HEL6 HAC6 hw6 hel7 v7 hb4
      generalize acc6 ++ [b4] = acc7 at HO7 HEL7 HAC7
      have HR7 : Hid (W7.ownsRow W1.heap.size 5 1 (.slice a7 (fr xs k + 5) ac7) (fr xs k + 5) (acc7.map bv)) := HO7.out.row HEL7.out
      obtain ⟨g, gc, hv, hBY⟩ := own_byts HO7.out.own (by rw [HEL7.out]; omega)
      rw [HEL7.out] at hv
      rw [hv]
      have HQ7 : Hid (Byts W7 (some ⟨g, 0, none⟩) (fr xs k + 5) acc7) := by rw [HEL7.out] at hBY; exact hBY
      have HL7 : Hid (Strs W7 la' k xs) := Row.below HL1.out HO7.out.bel (either HL1.out.2 id fun ⟨b, o, e, hb, _⟩ => ⟨b, o, e, hb⟩)
      have HB7 : Hid (Below wr.heap.size wr W7) := HB1.out.trans (HO7.out.bel.mono HB1.out.size)
      have htot : tot xs k ≤ 16384 := by have := fr_tot xs k; omega
      clear hBY hv HO7 HR7 HEL7 hw7 HL1 HB1
      go_wp2_with fail
      refine (zzNew_some 0 0 qt qc 0 0 0 false ⟨g, 0, none⟩ (fr xs k + 5) gc acc7 la' k k xs 512 W7 HQ7.out HL7.out (Nat.le_refl _) (by omega) (by omega) htot).mono ?_
      rintro e W8 ⟨gb, cap, mb, nm, aa, ac, rfl, hb8, hY, hM, hA, hcp⟩
      obtain ⟨N, hN⟩ : ∃ N, N = 12 + (fr xs k + 5) := ⟨_, rfl⟩
      rw [← hN] at hY hcp ⊢
      have HST8 : Hid (Stuff2 wr la' k xs gb N mb nm (msgB xs k [b1, b2, b3, b4]) W8) := ⟨Row.below' HL7.out hb8, HB7.out.trans (hb8.mono HB7.out.size), by rw [HAC7.out] at hY; exact hY, Byts.blk hY (by omega), by rw [HKP.out] at hM; exact hM⟩
      have HNN : Hid (N = 12 + (fr xs k + 5)) := hN
      have hNb : N ≤ 271 := by omega
      have hlen : xs.length = k := HL7.out.len
      clear hb8 hY hM hA hN HL7 HB7 HQ7 HAC7
      go_upto_region 22 with fail
      have HST9 : Hid (Stuff2 wr la' k xs gb N mb nm (msgB xs k [b1, b2, b3, b4]) (W8.alloc (.cells #[.int .u16 1, .int .u16 0, .int .u16 0, .int .u16 0] 29))) := HST8.out.grown ((Below.refl _ _).alloc (Nat.le_refl _) _)
      generalize W8.alloc (.cells #[.int .u16 1, .int .u16 0, .int .u16 0, .int .u16 0] 29) = W9 at HST9 ⊢
      clear HST8
      have hlm := HST9.out.m.len Try.underlying28 3
      rw [nmD_size xs 0 k (by omega), Nat.sub_zero] at hlm
      go_wp2_with fail
      clear hlm
      generalize lim false 512 = L
      generalize k - kp xs k = K0
      generalize W8.heap.size = B8
      generalize hTL : msgB xs k [b1, b2, b3, b4] = MB at HST9
      have HTL : Hid (msgB xs k [b1, b2, b3, b4] = MB) := hTL
      clear hTL
      go_loopw [21, 20] (fun x y wx => Stuff2 _ la' k xs gb N mb nm MB wx ∧ ∃ u : Nat, u ≤ k ∧ x = .int .i64 ((u : Int) - 1) ∧ y = .string (key xs u)) (fun x _ _ => (intOf x + 1).toNat)
      case atStart => exact ⟨HST9.out, k, Nat.le_refl _, rfl, by rw [← hlen, key_end]⟩
      case round =>
        clear HST9
        obtain ⟨hS, u, hu2, rfl, rfl⟩ := hrel
        have HS : Hid (Stuff2 _ la' k xs gb N mb nm MB wr) := hS
        clear hS
        by_cases hu : 0 < u
        · obtain ⟨v, rfl⟩ : ∃ v, u = v + 1 := ⟨u - 1, by omega⟩
          have e1 : ((v + 1 : Nat) : Int) - 1 = (v : Int) := by omega
          rw [e1]
          clear e1
          obtain ⟨b, o, rfl, hck, _⟩ := HS.out.l.at v (by omega)
          have hgv : (v : Int) < (k : Int) := by omega
          have hgv0 : (0 : Int) ≤ (v : Int) := by omega
          go_upto_if 134 with fail
          go_cut [20] from 135 to 145 (fun s wx => s = .string (key xs v) ∧ wx = wr)
          case first =>
            by_cases hv : v + 1 = k
            · have hb : ((v : Int) == (k : Int) - 1) = true := beq_iff_eq.2 (by omega)
              have hkl : key xs v = xs.getD v ByteArray.empty := key_last (by omega)
              generalize xs.getD v ByteArray.empty = x at hck hkl
              go_wp2
              go_meet
              exact ⟨by rw [hkl], rfl⟩
            · have hb : ((v : Int) == (k : Int) - 1) = false := beq_eq_false_iff_ne.2 (by omega)
              have hkl : (xs.getD v ByteArray.empty) ++ ⟨#[46]⟩ ++ key xs (v + 1) = key xs v := key_step (by omega)
              have hsx : (xs.getD v ByteArray.empty).size ≤ tot xs k := lbl_size (by omega)
              have hks : (key xs (v + 1)).size ≤ 20480 := by have := key_size (xs := xs) (i := v + 1) (by omega); rw [fr_tot xs xs.length, hlen] at this; omega
              generalize xs.getD v ByteArray.empty = x at hck hkl hsx
              have hs1 : x.size + 1 ≤ 9223372036854775807 := by omega
              have hs2 : x.size + 1 + (key xs (v + 1)).size ≤ 9223372036854775807 := by omega
              go_wp2
              go_meet
              exact ⟨by rw [← hkl], rfl⟩
          case rest =>
            obtain ⟨rfl, rfl⟩ := hcut
            clear hck
            have hks := key_size (xs := xs) (i := v) (by omega)
            rw [fr_tot xs xs.length, hlen] at hks
            have hat0 := nmD_at xs 0 (.lit (.int .i64 0)) k v (by omega) (by omega) (by omega)
            have HAT : Hid _ := hat0.1
            have hhas : Maps.has (nmD xs 0 k) (Lit.string (key xs v).data.toList) = true := hat0.2
            clear hat0
            go_wp2_with (at_lookup; refine wpList_lookup_own_ok_int _ rfl _ _ 28 rfl 9 3 .i64 law9 Try.underlying28 Try.underlying3 (zero3 _) mb nm _ rfl HS.out.m _ _ rfl (WideMaps.keyOf_string_mk Try.underlying9 (s := key xs v) (by unfold maxLen; omega)) ?_; intro c hat hwc)
            have hcv := at_val hat HAT.out
            subst hcv
            clear hat hwc HAT hhas
            refine (readerName_any gb cap N v k xs [b1, b2, b3, b4] _ (by rw [HTL.out]; exact HS.out.y) HS.out.g hcp (by omega) (by have := HNN.out; omega) (by omega) (by omega) HSZ.out (by omega)).mono ?_
            rintro e W10 ⟨ag, agc, rfl, hb10, hS10⟩
            have HST10 : Hid (Stuff2 wr (some ⟨b, o, none⟩) k xs gb N mb nm MB W10) := HS.out.grown hb10
            have HG10 : Hid (Strs W10 ag (k - v) (lowsT xs v (k - v))) := hS10
            have hle : (((k - v : Nat) : Int) != (k : Int) - (v : Int)) = false := by simp; omega
            have hkv : ((k - v : Nat) : Int) = (k : Int) - (v : Int) := by omega
            clear hb10 hS10 HS
            go_wp2_with fail
            go_loopw [27] (fun x wi => Stuff2 _ (some ⟨b, o, none⟩) k xs gb N mb nm MB wi ∧ Strs wi ag (k - v) (lowsT xs v (k - v)) ∧ ∃ t : Nat, t ≤ k - v ∧ x = .int .i64 t) (fun x _ => k - v - (intOf x).toNat)
            case atStart => exact ⟨HST10.out, HG10.out, 0, Nat.zero_le _, rfl⟩
            case round =>
              clear HST10 HG10
              obtain ⟨hS, hG, t, ht, rfl⟩ := hrel
              have HS : Hid (Stuff2 _ (some ⟨b, o, none⟩) k xs gb N mb nm MB wr) := hS
              have HG : Hid (Strs wr ag (k - v) (lowsT xs v (k - v))) := hG
              clear hS hG
              by_cases htk2 : t < k - v
              · obtain ⟨b2, o2, e2, hcg, _⟩ := HG.out.at t htk2
                subst e2
                rw [lowsT_at xs v (k - v) t htk2] at hcg
                obtain ⟨b3, o3, e3, hcl, _⟩ := HS.out.l.at (v + t) (by omega)
                injection e3 with e3; injection e3 with e31 e32 _; subst e31 e32
                have hcl' : wr.cell? ⟨b, o + (v + t), none⟩ = some (.string (lbl xs (v + t))) := hcl
                have hsx := (HSZ.out (v + t) (by omega)).2
                clear hcl
                generalize lbl xs (v + t) = x at hcg hcl' hsx
                have g1 : (t : Int) < (k : Int) - (v : Int) := by omega
                have g2 : (0 : Int) ≤ (t : Int) := by omega
                have g3 : (t : Int) < ((k - v : Nat) : Int) := by omega
                have g4 : (v : Int) + (t : Int) < (k : Int) := by omega
                have g5 : (0 : Int) ≤ (v : Int) + (t : Int) := by omega
                have g6 : ((v : Int) + (t : Int)).toNat = v + t := by omega
                have g7 : IntKind.i64.wrap ((v : Int) + (t : Int)) = (v : Int) + (t : Int) := by rw [IntKind.wrap_i64]; omega
                go_upto_region 42 with fail
                go_quiet ((go_at_call 16; exact Calls.quiet_of (sameLower_any x _ (by omega))))
                go_wp2
                go_roundw
                case rel => exact ⟨HS.out.grown (below_drewN (Below.refl _ _) _), Row.drewN HG.out _, t + 1, by omega, by go_num⟩
                case measure => simp [intOf]; omega
              · have g1 : ¬ (t : Int) < (k : Int) - (v : Int) := by omega
                go_wp2
                go_roundw
                case rel => exact ⟨HS.out, v, by omega, rfl, rfl⟩
                case measure => simp [intOf]
        · have hg : ¬ (0 : Int) ≤ (u : Int) - 1 := by omega
          go_wp2
          go_ret
          exact ⟨rfl, HS.out.b⟩
end Go.Proofs.Qxb6605469a
