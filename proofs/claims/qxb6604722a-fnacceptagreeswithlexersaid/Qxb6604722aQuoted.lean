import Derived.Test.Qxb6604722aLex
namespace Go.Proofs.Qxb6604722a
open Go.ChangeShapes Go.WideShapes Go.ChangeAt Go.RowKit
open Pl
set_option linter.unusedSimpArgs false
set_option linter.unusedVariables false

def tok0 : Obj := .cells #[.int .i64 0, .int .i64 0, .string ⟨#[]⟩, .string ⟨#[]⟩, .int .i64 0] 50

theorem QS.start {w : World} {L o : Nat} (hL : L < w.heap.size) (x : Int) (i : Nat) (hx : x = i) :
    QS (w.alloc tok0) (((w.setCell ⟨L, o + 1, none⟩ (.int .i64 x)).alloc tok0).alloc (.cells #[.pointer none, .slice none 0 0] 62)) ⟨L, o + 1, none⟩ i [] := by
  subst hx
  have e : (w.setCell ⟨L, o + 1, none⟩ (.int .i64 i)).alloc tok0 = (w.alloc tok0).setCell ⟨L, o + 1, none⟩ (.int .i64 i) := (World.setCell_alloc_past _ _ _ _ hL).symm
  have hz : ((w.setCell ⟨L, o + 1, none⟩ (.int .i64 i)).alloc tok0).heap.size = (w.alloc tok0).heap.size := by rw [e, size_setCell]
  refine ⟨?_, ?_⟩
  · rw [← e]
    exact (Below.refl _ _).alloc (by rw [hz]; exact Nat.le_refl _) _
  · have := Lib.fresh_isBuilder 62 5 ((w.setCell ⟨L, o + 1, none⟩ (.int .i64 i)).alloc tok0)
    rw [hz] at this
    exact this

theorem QS.lex {w wr : World} {L o : Nat} {src : ByteArray} {pos i : Nat} {mk : Bool} {md : Int} {acc : List UInt8} (h : QS w wr ⟨L, o + 1, none⟩ i acc) (hL : LexAt w L o src pos mk md) : LexAt wr L o src i mk md :=
  (hL.setPos i).below h.bel hL.lt

theorem QS.bwrite {w wr w1 : World} {p : Addr} {i : Nat} {acc : List UInt8} (l : List UInt8) (h : QS w wr p i acc) (hb : Below w.heap.size wr w1) (hB : Lib.BuilderAt 62 5 w.heap.size w.heap.size (.pointer (some ⟨w.heap.size, 0, none⟩)) (Lib.byteCells acc ++ Lib.byteCells l) w1) : QS w w1 p i (acc ++ l) :=
  ⟨h.bel.trans hb, .inr (by rw [show Lib.byteCells (acc ++ l) = Lib.byteCells acc ++ Lib.byteCells l from by simp [Lib.byteCells]]; exact hB)⟩

theorem QS.tok {w wr : World} {L o i : Nat} {acc : List UInt8} (h : QS (w.alloc tok0) wr ⟨L, o + 1, none⟩ i acc) (hL : L < w.heap.size) :
    wr.cell? ⟨w.heap.size, 0, none⟩ = some (.int .i64 0) ∧ wr.cell? ⟨w.heap.size, 1, none⟩ = some (.int .i64 0) ∧ wr.cell? ⟨w.heap.size, 2, none⟩ = some (.string ⟨#[]⟩) ∧ wr.cell? ⟨w.heap.size, 3, none⟩ = some (.string ⟨#[]⟩) ∧ wr.cell? ⟨w.heap.size, 4, none⟩ = some (.int .i64 0) ∧ ∀ j, wr.frozen? ⟨w.heap.size, j, none⟩ = false := by
  have hb : wr.heap[w.heap.size]? = some tok0 := by
    rw [h.bel.block w.heap.size (by simp), Below.heap_setCell _ _ _ _ (by show w.heap.size ≠ L; omega)]
    exact heap_alloc_new w tok0
  refine ⟨?_, ?_, ?_, ?_, ?_, fun j => ?_⟩
  all_goals simp [World.cell?, World.frozen?, hb, tok0]

theorem QS.fin {w wr : World} {L o i : Nat} {acc : List UInt8} (h : QS (w.alloc tok0) wr ⟨L, o + 1, none⟩ i acc) (hL : L < w.heap.size) : Below w.heap.size (w.setCell ⟨L, o + 1, none⟩ (.int .i64 i)) wr := by
  have hb := h.bel
  have e : (w.alloc tok0).setCell ⟨L, o + 1, none⟩ (.int .i64 i) = (w.setCell ⟨L, o + 1, none⟩ (.int .i64 i)).alloc tok0 := World.setCell_alloc_past _ _ _ _ hL
  rw [e] at hb
  have hz : (w.setCell ⟨L, o + 1, none⟩ (.int .i64 i)).heap.size = w.heap.size := size_setCell _ _ _
  exact ((Below.refl w.heap.size (w.setCell ⟨L, o + 1, none⟩ (.int .i64 i))).alloc (by rw [hz]; exact Nat.le_refl _) tok0).trans (hb.mono (by simp))

theorem far_none {q : UInt8} {l acc : List UInt8} {a i : Nat} (h : Far q l a i acc) (hi : i ≤ l.length) (h2 : ∀ j (hj : j < (l.drop i).length), (l.drop i)[j] ≠ q) : qv q (l.drop a) = none := by
  refine h.stays (fun j hj1 hj2 e => ?_) hi
  have := h2 (j - i) (by rw [List.length_drop]; omega)
  rw [List.getElem_drop] at this
  apply this
  rw [← e]; congr 1; omega

theorem far_at {q : UInt8} {l acc : List UInt8} {a i m : Nat} (h : Far q l a i acc) (hm : m < (l.drop i).length) (hm2 : (l.drop i)[m] = q) (hm3 : ∀ j (hj : j < m), (l.drop i)[j] ≠ q) :
    Far q l a (i + m) (acc ++ (l.drop i).take m) ∧ ∃ hl : i + m < l.length, l[i + m] = q := by
  rw [List.length_drop] at hm
  refine ⟨h.stretch m (by omega) (fun j hj hj2 e => ?_), by omega, ?_⟩
  · have := hm3 j hj
    rw [List.getElem_drop] at this
    exact this e
  · rw [List.getElem_drop] at hm2; exact hm2

theorem LexAt.drewN {w : World} {L o : Nat} {src : ByteArray} {pos : Nat} {mk : Bool} {md : Int} (h : LexAt w L o src pos mk md) (m : Nat) : LexAt (w.drewN m) L o src pos mk md :=
  ⟨h.lt, h.c0, h.c1, h.c2, h.c3, h.fr⟩

theorem qs_writeString {w : World} {p : Addr} {acc : List UInt8} (src : ByteArray) (i m : Nat) (ha : acc.length ≤ 1048576) (hm : m ≤ 1048576) (W : World) (hW : QS (w.alloc tok0) W p i acc) :
    Calls Try.prog 28 #[.pointer (some ⟨w.heap.size + 1, 0, none⟩), .string (src.extract i (i + m))] W fun e w' => e = .returned (.tuple #[.int .i64 ((src.extract i (i + m)).size : Int), .nilIface]) ∧ QS (w.alloc tok0) w' p i (acc ++ (src.data.toList.drop i).take m) := by
  have ez : (w.alloc tok0).heap.size = w.heap.size + 1 := by simp
  have hb := hW.bld
  have hz := hW.size
  rw [ez] at hb hz
  refine (writeString_any (w.heap.size + 1) (w.heap.size + 1) (Lib.byteCells acc) (src.extract i (i + m)) W hb ?_ hz).mono ?_
  · rw [Lib.byteCells_length, ← len_size, Lib.extract_data]
    have := List.length_take_le (i + m - i) (List.drop i src.data.toList)
    omega
  · rintro e w' ⟨rfl, hB, hb⟩
    refine ⟨rfl, hW.bwrite _ (by rw [ez]; exact hb) ?_⟩
    have e2 : Lib.strCells (src.extract i (i + m)) = Lib.byteCells ((src.data.toList.drop i).take m) := by
      rw [Lib.strCells, Lib.byteCells, Lib.extract_data, show i + m - i = m from by omega]
    rw [← e2, ez]; exact hB

theorem qs_writeByte {w : World} {p : Addr} {i : Nat} {acc : List UInt8} (q : UInt8) (ha : acc.length ≤ 1048577) (W : World) (hW : QS (w.alloc tok0) W p i acc) :
    Calls Try.prog 29 #[.pointer (some ⟨w.heap.size + 1, 0, none⟩), .int .u8 q.toNat] W fun e w' => e = .returned .nilIface ∧ QS (w.alloc tok0) w' p i (acc ++ [q]) := by
  have ez : (w.alloc tok0).heap.size = w.heap.size + 1 := by simp
  have hb := hW.bld
  have hz := hW.size
  rw [ez] at hb hz
  refine (writeByte_any (w.heap.size + 1) (w.heap.size + 1) (Lib.byteCells acc) q.toNat W hb ?_ hz).mono ?_
  · rw [Lib.byteCells_length]; omega
  · rintro e w' ⟨rfl, hB, hb⟩
    refine ⟨rfl, hW.bwrite [q] (by rw [ez]; exact hb) ?_⟩
    rw [ez]; exact hB

theorem qs_string {w : World} {p : Addr} {i : Nat} {acc : List UInt8} (W : World) (hW : QS (w.alloc tok0) W p i acc) :
    Calls Try.prog 30 #[.pointer (some ⟨w.heap.size + 1, 0, none⟩)] W fun e w' => e = .returned (.string (str acc)) ∧ Below (w.heap.size + 1) W w' := by
  have ez : (w.alloc tok0).heap.size = w.heap.size + 1 := by simp
  have hb := hW.bld
  have hz := hW.size
  rw [ez] at hb hz
  exact Try.Builder_String_any (w.heap.size + 1) (w.heap.size + 1) acc W hb hz

theorem qtok_none {src : ByteArray} {pos : Nat} {q : UInt8} (kind : Int) (unt : ByteArray) (h : qv q (src.data.toList.drop (pos + 1)) = none) : qtok src pos kind q unt = tokV 11 (src.extract pos src.size) unt := by unfold qtok; rw [h]
theorem qtok_some {src : ByteArray} {pos : Nat} {q : UInt8} {v : List UInt8} {m : Nat} (kind : Int) (unt : ByteArray) (h : qv q (src.data.toList.drop (pos + 1)) = some (v, m)) : qtok src pos kind q unt = tokV kind (src.extract pos (pos + 1 + m)) (str v) := by unfold qtok; rw [h]
theorem qend_none {src : ByteArray} {pos : Nat} {q : UInt8} (h : qv q (src.data.toList.drop (pos + 1)) = none) : qend src pos q = src.size := by unfold qend; rw [h]
theorem qend_some {src : ByteArray} {pos : Nat} {q : UInt8} {v : List UInt8} {m : Nat} (h : qv q (src.data.toList.drop (pos + 1)) = some (v, m)) : qend src pos q = pos + 1 + m := by unfold qend; rw [h]

set_option maxRecDepth 20000 in
set_option maxHeartbeats 2000000 in
theorem quoted_any (L o : Nat) (src : ByteArray) (pos : Nat) (mk : Bool) (md : Int) (kind : Int) (q : UInt8) (unt : ByteArray) (w : World) (hs : src.size ≤ 1048576) (hp : pos < src.size) (hL : LexAt w L o src pos mk md) :
    Calls Try.prog 22 #[.pointer (some ⟨L, o, none⟩), .int .i64 kind, .int .u8 q.toNat, .string unt] w fun e w' => e = .returned (qtok src pos kind q unt) ∧ Below w.heap.size (w.setCell ⟨L, o + 1, none⟩ (.int .i64 (qend src pos q))) w' := by
  have hlt := hL.lt
  have c0 := hL.c0
  have c1 := hL.c1
  have f1 := hL.fr (o + 1)
  have a0 := fun x => (hL.alloc x).c0
  have a1 := fun x => (hL.alloc x).c1
  have b1 := fun x => (hL.alloc x).fr (o + 1)
  have HL : Hid (src.data.toList.length = src.size) := len_size src
  go_enter Try.func22, Try.ntmps22
  go_wp2_with fail
  have hQ0 := QS.start (w := w) (L := L) (o := o) hlt ((pos : Int) + 1) (pos + 1) (by omega)
  clear c0 c1 f1 a0 a1 b1
  go_loopg [11] (src.size - pos) (fun g e wr => ∃ (i : Nat) (acc : List UInt8), pos + 1 ≤ i ∧ i ≤ src.size ∧ i + g = src.size + 1 ∧ Far q src.data.toList (pos + 1) i acc ∧ QS (w.alloc tok0) wr ⟨L, o + 1, none⟩ i acc)
  case atStart => exact ⟨pos + 1, [], by omega, by omega, by omega, Far.start _ _ _, hQ0⟩
  case round =>
    clear hQ0
    obtain ⟨i, acc, hi1, hi2, hg, hfar, hQ⟩ := hrel
    have HQ : Hid (QS (w.alloc tok0) wr ⟨L, o + 1, none⟩ i acc) := hQ
    have HF : Hid (Far q src.data.toList (pos + 1) i acc) := hfar
    have hLr := hQ.lex (hL.alloc tok0)
    have HLr : Hid (LexAt wr L o src i mk md) := hLr
    have c0 := hLr.c0
    have c1 := hLr.c1
    have f1 := hLr.fr (o + 1)
    have hal : acc.length ≤ i := by have := hfar.2.1; omega
    clear hQ hfar hLr
    have hi2' : (i : Int) ≤ (src.size : Int) := by omega
    have hi0' : (0 : Int) ≤ (i : Int) := by omega
    go_wp2_with fail
    go_quiet ((go_at_call 27; exact Calls.quiet_of_same (Try.strings_IndexByte _ _ _)))
    rw [rest_list, u8_back]
    rcases ib_spec (src.data.toList.drop i) q with ⟨h1, h2⟩ | ⟨m, h1, hm1, hm2, hm3⟩
    · have HN : Hid (qv q (src.data.toList.drop (pos + 1)) = none) := far_none HF.out (by rw [HL.out]; exact hi2) h2
      rw [h1]
      clear h1 h2
      obtain ⟨t0, t1, t2, t3, t4, tf⟩ := HQ.out.tok hlt
      have hne : L ≠ w.heap.size := by omega
      go_wp2
      refine bodyPost_ret (v := tokV 11 (src.extract pos src.size) unt) (by simp [results, Try.results22, go_sem, tokV, t0, t1, t2, t3, t4]) rfl ⟨ret_of (qtok_none kind unt HN.out).symm, ?_⟩
      rw [qend_none HN.out]
      exact ((((((HQ.out.drewN nq).pos (by simp; omega) src.size).fin hlt).setCell (Nat.le_refl _) _).setCell (Nat.le_refl _) _).setCell (Nat.le_refl _) _ |>.setCell (Nat.le_refl _) _ |>.setCell (Nat.le_refl _) _)
    · obtain ⟨hF2, hlm, hqm⟩ := far_at HF.out hm1 hm2 hm3
      have him : i + m < src.size := by rw [← HL.out]; exact hlm
      have HF2 : Hid (Far q src.data.toList (pos + 1) (i + m) (acc ++ (src.data.toList.drop i).take m)) := hF2
      have HQm : Hid (src.data.toList[i + m]'hlm = q) := hqm
      rw [h1]
      clear h1 hm1 hm2 hm3 hF2 hqm
      have HQ1 : Hid (QS (w.alloc tok0) (wr.drewN nq) ⟨L, o + 1, none⟩ i acc) := HQ.out.drewN nq
      have HLr1 : Hid (LexAt (wr.drewN nq) L o src i mk md) := HLr.out.drewN nq
      go_upto_region 8 with fail
      go_cut [67] from 23 to 66 (fun _ wx => QS (w.alloc tok0) wx ⟨L, o + 1, none⟩ i (acc ++ (src.data.toList.drop i).take m))
      case first =>
        have him1 : (i : Int) ≤ (i : Int) + (m : Int) := by omega
        have him2 : (i : Int) + (m : Int) ≤ (src.size : Int) := by omega
        have hwr : IntKind.i64.wrap ((i : Int) + (m : Int)) = (i : Int) + (m : Int) := by rw [IntKind.wrap_i64]; omega
        have htn : ((i : Int) + (m : Int)).toNat = i + m := by omega
        go_region_with (go_at_call 28; refine (qs_writeString (w := w) (p := ⟨L, o + 1, none⟩) (acc := acc) src i m (by omega) (by omega) _ ?_).mono ?_; exact HQ.out.drewN _; rintro e w1 ⟨rfl, hq1⟩)
        all_goals (try go_wp2_with fail)
        all_goals go_meet
        all_goals exact hq1
      case rest =>
        obtain ⟨j, hj⟩ : ∃ j, j = i + m + 1 := ⟨_, rfl⟩
        have HJ : Hid (j = i + m + 1) := hj
        have hjs : j ≤ src.size := by omega
        have HLc : Hid (LexAt wc L o src i mk md) := hcut.lex (hL.alloc tok0)
        have HQc : Hid (QS (w.alloc tok0) wc ⟨L, o + 1, none⟩ i (acc ++ (src.data.toList.drop i).take m)) := hcut
        clear hcut HQ1 HLr1 HQ HLr c0 c1 f1 hj
        have c1 := HLc.out.c1
        have f1 := HLc.out.fr (o + 1)
        go_upto_region 9 with fail
        go_cut [76] from 68 to 75 (fun _ wx => QS (w.alloc tok0) wx ⟨L, o + 1, none⟩ j (acc ++ (src.data.toList.drop i).take m))
        case first =>
          go_wp2
          go_meet
          case rel =>
            have hp := HQc.out.pos (by simp; omega) j
            rw [show ((j : Nat) : Int) = (i : Int) + ((m : Int) + 1) from by have := HJ.out; omega] at hp
            exact ⟨by have := hp.bel; rw [show (i : Int) + ((m : Int) + 1) = ((j : Nat) : Int) from by have := HJ.out; omega] at this ⊢; exact this, hp.bld⟩
        case rest =>
          clear c1 f1 HQc
          have HF3 := HF2.out
          generalize hac : acc ++ (src.data.toList.drop i).take m = acc2 at hcut HF3
          have hal2 : acc2.length ≤ i + m := by have := HF3.2.1; omega
          clear HF2 hac
          have HF2 : Hid (Far q src.data.toList (pos + 1) (i + m) acc2) := HF3
          clear HF3
          have HLj : Hid (LexAt wc L o src j mk md) := hcut.lex (hL.alloc tok0)
          have HQj : Hid (QS (w.alloc tok0) wc ⟨L, o + 1, none⟩ j acc2) := hcut
          clear hcut HLc
          have c0 := HLj.out.c0
          have c1 := HLj.out.c1
          have f1 := HLj.out.fr (o + 1)
          have hj0 : (0 : Int) ≤ (j : Int) := by omega
          by_cases hA : ∃ h : j < src.size, src[j] = q
          · obtain ⟨hjl, hjq⟩ := hA
            have HF4 : Hid (Far q src.data.toList (pos + 1) (j + 1) (acc2 ++ [q])) := by
              have hx := HF2.out.twice (by rw [HL.out]; have := HJ.out; omega) HQm.out (by have e := at_list src j hjl; rw [hjq] at e; rw [← e]; congr 1; have := HJ.out; omega)
              rw [show i + m + 2 = j + 1 from by have := HJ.out; omega] at hx; exact hx
            have hd : decide ((src.size : Int) ≤ (j : Int)) = false := decide_eq_false (by omega)
            have hjl' : (j : Int) < (src.size : Int) := by omega
            have hjq' : ((src[j].toNat : Int) != (q.toNat : Int)) = false := by rw [hjq]; simp
            clear hjq
            go_upto_region 10 with fail
            go_quiet (fail)
            go_wp2_with fail
            refine (qs_writeByte (w := w) (p := ⟨L, o + 1, none⟩) (i := j) (acc := acc2) q (by omega) _ (HQj.out.drewN _)).mono ?_
            rintro e w1 ⟨rfl, hq1⟩
            have hL1 := hq1.lex (hL.alloc tok0)
            have d1 := hL1.c1
            have g1 := hL1.fr (o + 1)
            have HQ5 : Hid (QS (w.alloc tok0) w1 ⟨L, o + 1, none⟩ j (acc2 ++ [q])) := hq1
            clear hq1 hL1
            go_wp2
            go_roundg (src.size + 1 - (j + 1))
            case measure => have := HJ.out; omega
            case rel => exact ⟨j + 1, acc2 ++ [q], by have := HJ.out; omega, by omega, by omega, HF4.out, HQ5.out.pos (by simp; omega) (j + 1)⟩
          · have HV : Hid (qv q (src.data.toList.drop (pos + 1)) = some (acc2, i + m + 1 - (pos + 1))) := HF2.out.close hlm HQm.out (fun h2 e => hA (by
              have hjl : j < src.size := by rw [HJ.out, ← HL.out]; exact h2
              refine ⟨hjl, ?_⟩
              rw [← at_list src j hjl, ← e]; congr 1))
            have hB : decide ((src.size : Int) ≤ (j : Int)) = true ∨ (decide ((src.size : Int) ≤ (j : Int)) = false ∧ ∃ h : j < src.size, ((src[j].toNat : Int) != (q.toNat : Int)) = true) := by
              by_cases h : j < src.size
              · refine .inr ⟨decide_eq_false (by omega), h, ?_⟩
                simp; intro e; exact hA ⟨h, UInt8.toNat_inj.1 (by omega)⟩
              · exact .inl (decide_eq_true (by omega))
            clear hA
            go_upto_region 10 with fail
            go_cut [99] from 77 to 98 (fun t wx => t = .bool true ∧ ∃ nq, wx = wc.drewN nq)
            case first =>
              rcases hB with hd | ⟨hd, hjl, hjq⟩
              · have hd' : (src.size : Int) ≤ (j : Int) := of_decide_eq_true hd
                go_quiet (fail)
                go_wp2_with fail
                go_meet
                case rel => exact ⟨rfl, _, rfl⟩
              · have hjl' : (j : Int) < (src.size : Int) := by omega
                go_quiet (fail)
                go_wp2_with fail
                go_meet
                case rel => exact ⟨rfl, _, rfl⟩
            case rest =>
              obtain ⟨rfl, nq2, rfl⟩ := hcut
              clear hB
              obtain ⟨t0, t1, t2, t3, t4, tf⟩ := HQj.out.tok hlt
              have hpj : (pos : Int) ≤ (j : Int) := by have := HJ.out; omega
              have hjs' : (j : Int) ≤ (src.size : Int) := by omega
              have hLn : L < w.heap.size + 1 := by omega
              go_wp2_with fail
              go_region_with (go_at_call 30; refine (qs_string (w := w) (p := ⟨L, o + 1, none⟩) (i := j) (acc := acc2) _ ?_).mono ?_; exact HQj.out.drewN _; rintro e w3 ⟨rfl, hb3⟩; have k0 := (hb3.cell (p := ⟨L, o, none⟩) hLn).trans c0; have k1 := (hb3.cell (p := ⟨L, o + 1, none⟩) hLn).trans c1; have s0 := (hb3.cell (p := ⟨w.heap.size, 0, none⟩) (Nat.lt_succ_self _)).trans t0; have s1 := (hb3.cell (p := ⟨w.heap.size, 1, none⟩) (Nat.lt_succ_self _)).trans t1; have s2 := (hb3.cell (p := ⟨w.heap.size, 2, none⟩) (Nat.lt_succ_self _)).trans t2; have s3 := (hb3.cell (p := ⟨w.heap.size, 3, none⟩) (Nat.lt_succ_self _)).trans t3; have s4 := (hb3.cell (p := ⟨w.heap.size, 4, none⟩) (Nat.lt_succ_self _)).trans t4; have sf := fun j => (hb3.frozen (p := ⟨w.heap.size, j, none⟩) (Nat.lt_succ_self _)).trans (tf j))
              all_goals (try go_wp2_with fail)
              all_goals
                refine bodyPost_ret (v := tokV kind (src.extract pos j) (str acc2)) (by simp [results, Try.results22, go_sem, tokV, s0, s1, s2, s3, s4]) rfl ⟨ret_of ?_, ?_⟩
                · rw [qtok_some kind unt HV.out, show pos + 1 + (i + m + 1 - (pos + 1)) = j from by rw [HJ.out]; omega]
                · rw [qend_some HV.out, show pos + 1 + (i + m + 1 - (pos + 1)) = j from by rw [HJ.out]; omega]
                  exact (((((((HQj.out.drewN _).fin hlt).trans (hb3.mono (Nat.le_succ _))).setCell (Nat.le_refl _) _).setCell (Nat.le_refl _) _).setCell (Nat.le_refl _) _).setCell (Nat.le_refl _) _).setCell (Nat.le_refl _) _
end Go.Proofs.Qxb6604722a
