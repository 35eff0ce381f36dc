import Derived.Test.Qxb6605469aEx
set_option linter.unusedSimpArgs false
set_option linter.unusedVariables false
namespace Go.Proofs.Qxb6605469a
open Go.ChangeShapes Go.WideShapes Go.ChangeAt Go.RowKit
open Go.Maps

set_option maxRecDepth 20000 in
set_option maxHeartbeats 8000000 in
theorem exact_nil (i f qt qc' pl ef ev : Int) (ed : Bool) (la : Option Addr) (n lc : Nat) (xs : List ByteArray) (size : Int) (w : World)
    (hl : Strs w la n xs) (hln : la = none → n = 0 ∧ lc = 0) (hnm : n ≤ maxLen) (hxm : ∀ x ∈ xs, x.size ≤ maxLen) (hsz : (Lit.int .i64 size).wf = true) :
    Calls Try.prog 3 #[.int .u16 i, .int .u16 f, .slice none 0 0, .slice la n lc, .int .u16 qt, .int .u16 qc', .bool ed, .int .u16 pl, .int .u16 ef, .int .u8 ev, .int .i64 size] w fun e w' => e = .returned (.bool true) ∧ Below w.heap.size w w' := by
  have HZ := zzBytes_any i f qt qc' pl ef ev size ed none 0 0 la n lc xs w hl (Nat.zero_le _) hnm hxm
  unfold maxLen at hnm
  by_cases h2 : 4096 < n
  · go_enter Try.func3, Try.ntmps3
    go_wp2_with fail
    refine HZ.mono ?_
    rintro e w' ⟨b, rfl, rfl⟩
    cases b
    · go_wp2; go_ret; exact ⟨rfl, Below.refl _ _⟩
    · go_wp2; go_ret; exact ⟨rfl, Below.refl _ _⟩
  go_enter Try.func3, Try.ntmps3
  go_wp2_with fail
  refine HZ.mono ?_
  rintro e w' ⟨b, rfl, rfl⟩
  clear HZ
  cases b
  · go_wp2; go_ret; exact ⟨rfl, Below.refl _ _⟩
  go_wp2_with fail
  have HL : Hid (Strs w' la n xs) := hl
  have HX : Hid (∀ x ∈ xs, x.size ≤ maxLen) := hxm
  clear hl hxm
  go_loopw [24, 23] (fun x t wr => wr = w' ∧ ∃ k : Nat, k ≤ n ∧ x = .int .i64 k ∧ t = .int .i64 (tot xs k) ∧ tot xs k ≤ k * 16384) (fun x _ _ => n - (intOf x).toNat)
  case atStart => exact ⟨rfl, 0, Nat.zero_le _, rfl, rfl, Nat.zero_le _⟩
  case round =>
    obtain ⟨rfl, k, hk, rfl, rfl, htk⟩ := hrel
    by_cases hlt : k < n
    · obtain ⟨b, o, rfl, hck, hmem⟩ := HL.out.at k hlt
      have hxs := HX.out _ hmem
      have HT : Hid (tot xs (k + 1) = tot xs k + (xs.getD k ByteArray.empty).size) := rfl
      unfold maxLen at hxs
      generalize xs.getD k ByteArray.empty = x at hck hxs HT
      clear hmem
      by_cases c1 : 16384 < x.size
      · go_wp2
        go_ret
        exact ⟨rfl, Below.refl _ _⟩
      go_wp2
      go_roundw
      case rel => exact ⟨trivial, k + 1, by omega, by go_num, by rw [HT.out]; go_num, by rw [HT.out]; omega⟩
      case measure => simp [intOf]; omega
    · obtain rfl : k = n := by omega
      clear HX hlt
      by_cases c1 : 16384 < tot xs k
      · go_wp2
        go_ret
        exact ⟨rfl, Below.refl _ _⟩
      have c2 : ¬ 1048576 < 16 * k + tot xs k := by omega
      go_wp2_with fail
      refine (copyBytes_nil _).mono ?_
      rintro e W1 ⟨rfl, rfl⟩
      go_wp2_with fail
      refine (copyStrings_any la k lc xs _ (by omega) HL.out hln).mono ?_
      rintro e W2 ⟨la', rfl, hb2, hl2, hn2, hlo⟩
      have HB2 : Hid (Below _ _ W2) := hb2
      clear hb2 hl2 hlo HL
      go_wp2_with fail
      refine (zzNew_nil i f qt qc' pl ef ev ed la' k k size W2).mono ?_
      rintro e W3 ⟨gb, mb, rfl, hb3, hY, hM⟩
      have HB3 : Hid (Below _ _ W3) := HB2.out.trans (hb3.mono HB2.out.size)
      have HY3 : Hid (Byts W3 (some ⟨gb, 0, none⟩) 12 (List.replicate 12 0)) := hY
      have HM3 : Hid (W3.ownsMap Try.prog 9 (plainElem (H := Unit) Try.prog 3) mb 0 (.map [])) := hM
      clear hb3 hY hM HB2
      go_upto_region 21 with fail
      have hb4 : Below W3.heap.size W3 (W3.alloc (.cells #[.int .u16 0, .int .u16 0, .int .u16 0, .int .u16 0] 29)) := (Below.refl _ _).alloc (Nat.le_refl _) _
      have HB4 : Hid (Below _ _ _) := HB3.out.trans (hb4.mono HB3.out.size)
      have HY4 : Hid (Byts _ (some ⟨gb, 0, none⟩) 12 (List.replicate 12 0)) := Row.below' HY3.out hb4
      have HM4 : Hid (World.ownsMap _ Try.prog 9 (plainElem (H := Unit) Try.prog 3) mb 0 (.map [])) := HM3.out.alloc (.cells #[.int .u16 0, .int .u16 0, .int .u16 0, .int .u16 0] 29)
      have HC4 : Hid _ := heap_alloc_new W3 (.cells #[.int .u16 0, .int .u16 0, .int .u16 0, .int .u16 0] 29)
      generalize W3.alloc (.cells #[.int .u16 0, .int .u16 0, .int .u16 0, .int .u16 0] 29) = W4 at HB4 HY4 HM4 HC4 ⊢
      generalize W3.heap.size = Bc at HC4 ⊢
      clear hb4 HB3 HY3 HM3
      have HLT : Hid (ed = true → wrap64 (lim ed size + 11) = size) := fun e => by subst e; exact lim_true hsz
      have HLF : Hid (ed = false → lim ed size = size) := fun e => by subst e; rfl
      generalize lim ed size = L at HLT HLF ⊢
      go_upto_if 118 with fail
      go_cut [119] from 118 to 125 (fun _ wx => wx = W4)
      case first =>
        cases ed
        · have e1 := HLF.out rfl
          subst e1
          go_wp2
          go_meet
          exact rfl
        · have e1 := HLT.out rfl
          have e2 : (wrap64 (L + 11) != size) = false := by rw [e1]; simp
          go_wp2
          go_meet
          exact rfl
      case rest =>
        subst hcut
        clear HLT HLF
        have hnil := fun wx : World => Lib.run_eql_slice_nil (P := Try.prog) wx 23 5 none 0 0 0 0 Try.underlying23
        obtain ⟨d0, d1, d2, d3⟩ := four_cells HC4.out
        have heq := eq29_zero
        have hlm : (Builtin.len_ #[28] 3 #[.map (some mb)]).run Try.prog wc = .ok (.int .i64 0) wc := HM4.out.len Try.underlying28 3
        clear HC4
        go_wp2_with fail
        clear d0 d1 d2 d3 hnil heq hlm
        go_loopw [33] (fun x wx => wx = wc ∧ ∃ j : Nat, j ≤ 12 ∧ x = .int .i64 j) (fun x _ => 12 - (intOf x).toNat)
        case atStart => exact ⟨rfl, 0, Nat.zero_le _, rfl⟩
        case round =>
          obtain ⟨rfl, j, hj, rfl⟩ := hrel
          by_cases hj12 : j < 12
          · have hc := HY4.out.cell0 j (by omega)
            have e0 : (List.replicate 12 (0 : UInt8)).getD j 0 = 0 := by
              rw [List.getD_eq_getElem?_getD, List.getElem?_replicate, if_pos hj12]; rfl
            rw [e0] at hc
            have hc' : World.cell? _ ⟨gb, j, none⟩ = some (.int .u8 0) := hc
            have hjq : (j : Int) < 12 := by omega
            clear hc e0
            go_wp2
            go_roundw
            case rel => exact ⟨trivial, j + 1, by omega, by go_num⟩
            case measure => simp [intOf]; omega
          · go_wp2
            go_ret
            exact ⟨rfl, HB4.out⟩
end Go.Proofs.Qxb6605469a
