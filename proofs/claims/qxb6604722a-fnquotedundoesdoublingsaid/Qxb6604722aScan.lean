import Derived.Test.Qxb6604722aQuoted
import Derived.OpenShut
namespace Go.Proofs.Qxb6604722a
open Go.ChangeShapes Go.WideShapes Go.ChangeAt Go.RowKit
open Pl
set_option linter.unusedSimpArgs false
set_option linter.unusedVariables false

def lexObj (src : ByteArray) (pos : Int) (mk : Bool) (md : Int) : Obj := .cells #[.string src, .int .i64 pos, .bool mk, .int .i64 md] 47

set_option maxHeartbeats 400000 in
theorem newLexer_any (src : ByteArray) (pos : Int) (mk : Bool) (md : Int) (w : World) :
    Calls Try.prog 8 #[.string src, .int .i64 pos, .bool mk, .int .i64 md] w fun e w' => e = .returned (.pointer (some ⟨w.heap.size, 0, none⟩)) ∧ w' = w.alloc (lexObj src pos mk md) := by
  go_enter Try.func8, Try.ntmps8
  go_wp2
  go_ret
  exact ⟨rfl, rfl⟩

theorem lexAt_new (src : ByteArray) (pos : Nat) (mk : Bool) (md : Int) (w : World) : LexAt (w.alloc (lexObj src pos mk md)) w.heap.size 0 src pos mk md := by
  have hb : (w.alloc (lexObj src pos mk md)).heap[w.heap.size]? = some (.cells #[.string src, .int .i64 pos, .bool mk, .int .i64 md] 47 (0, 0)) := heap_alloc_new w _
  refine ⟨by simp, ?_, ?_, ?_, ?_, fun j => Lib.frozen_of_heap hb j⟩
  all_goals (rw [Lib.cell_of_heap hb]; rfl)

set_option maxHeartbeats 400000 in
theorem lexerFields_any (L o : Nat) (src : ByteArray) (pos : Nat) (mk : Bool) (md : Int) (w : World) (hL : LexAt w L o src pos mk md) :
    Calls Try.prog 10 #[.pointer (some ⟨L, o, none⟩)] w fun e w' => e = .returned (.tuple #[.string src, .int .i64 pos, .bool mk, .int .i64 md]) ∧ ∃ m, w' = w.drewN m := by
  have c0 := hL.c0
  have c1 := hL.c1
  have c2 := hL.c2
  have c3 := hL.c3
  go_enter Try.func10, Try.ntmps10
  go_wp2
  go_quiet (fail)
  go_wp2
  exact bodyPost_ret (v := .tuple #[.string src, .int .i64 pos, .bool mk, .int .i64 md]) (by simp [results, Try.results10, go_sem]) rfl ⟨rfl, _, rfl⟩

/-- What ZZQuoted hands out of the token. -/
def qtup (src : ByteArray) (pos : Nat) (kind : Int) (q : UInt8) (unt : ByteArray) : Value :=
  match qv q (src.data.toList.drop (pos + 1)) with
  | some r => .tuple #[.int .i64 kind, .int .i64 0, .string (src.extract pos (pos + 1 + r.2)), .string (str r.1), .int .i64 0]
  | none => .tuple #[.int .i64 11, .int .i64 0, .string (src.extract pos src.size), .string unt, .int .i64 0]

set_option maxHeartbeats 400000 in
theorem zzQuoted_any (L o : Nat) (src : ByteArray) (pos : Nat) (mk : Bool) (md : Int) (kind : Int) (q : UInt8) (unt : ByteArray) (w : World) (hs : src.size ≤ 1048576) (hp : pos < src.size) (hL : LexAt w L o src pos mk md) :
    Calls Try.prog 9 #[.pointer (some ⟨L, o, none⟩), .int .i64 kind, .int .u8 q.toNat, .string unt] w fun e w' => e = .returned (qtup src pos kind q unt) ∧ Below w.heap.size (w.setCell ⟨L, o + 1, none⟩ (.int .i64 (qend src pos q))) w' := by
  go_enter Try.func9, Try.ntmps9
  go_wp2_with fail
  refine (quoted_any L o src pos mk md kind q unt _ hs hp hL).mono ?_
  rintro e w1 ⟨rfl, hb⟩
  obtain ⟨k, text, val, htok, htup⟩ : ∃ (k : Int) (text val : ByteArray), qtok src pos kind q unt = tokV k text val ∧ qtup src pos kind q unt = .tuple #[.int .i64 k, .int .i64 0, .string text, .string val, .int .i64 0] := by
    unfold qtok qtup
    cases qv q (src.data.toList.drop (pos + 1)) with
    | none => exact ⟨_, _, _, rfl, rfl⟩
    | some r => exact ⟨_, _, _, rfl, rfl⟩
  rw [htok]
  have HT : Hid (qtup src pos kind q unt = .tuple #[.int .i64 k, .int .i64 0, .string text, .string val, .int .i64 0]) := htup
  have hz : w.heap.size ≤ w1.heap.size := by have := hb.size; rw [size_setCell] at this; exact this
  clear htok htup
  unfold tokV
  go_wp2
  go_quiet (fail)
  go_wp2
  refine bodyPost_ret (v := .tuple #[.int .i64 k, .int .i64 0, .string text, .string val, .int .i64 0]) (by simp [results, Try.results9, go_sem]) rfl ⟨ret_of HT.out.symm, ?_⟩
  exact below_drewN (hb.alloc hz _) _

theorem bytes_beq_refl (b : ByteArray) : (b.toList == b.toList) = true := by simp

set_option maxRecDepth 20000 in
set_option maxHeartbeats 2000000 in
theorem scan_main (src : ByteArray) (pos : Nat) (mk : Bool) (md kind : Int) (q : UInt8) (unt : ByteArray) (w : World) (hs : src.size + unt.size ≤ 1048576) (hp : pos < src.size) :
    Calls Try.prog 3 #[.string src, .int .i64 pos, .bool mk, .int .i64 md, .int .i64 kind, .int .u8 q.toNat, .string unt] w fun e w' => e = .returned (.bool true) ∧ Below w.heap.size w w' := by
  go_enter Try.func3, Try.ntmps3
  go_wp2_with (go_at_call 7; go_in)
  refine (newLexer_any src pos mk md _).mono ?_
  rintro e w1 ⟨rfl, rfl⟩
  have hL := lexAt_new src pos mk md w
  go_wp2_with fail
  refine (zzQuoted_any w.heap.size 0 src pos mk md kind q unt _ (by omega) hp hL).mono ?_
  rintro e w2 ⟨rfl, hb2⟩
  have hL2 := (hL.setPos (qend src pos q)).below hb2 hL.lt
  have hB2 : Below w.heap.size w w2 := (((Below.refl w.heap.size w).alloc (Nat.le_refl _) (lexObj src pos mk md)).setCell (Nat.le_refl _) _).trans (hb2.mono (by simp))
  obtain ⟨k, text, val, hend, htup, hres⟩ : ∃ (k : Int) (text val : ByteArray), True ∧ qtup src pos kind q unt = .tuple #[.int .i64 k, .int .i64 0, .string text, .string val, .int .i64 0] ∧ qres src pos kind q unt = .tuple #[.int .i64 k, .string text, .string val, .int .i64 (qend src pos q)] := by
    unfold qtup qres qend
    cases qv q (src.data.toList.drop (pos + 1)) with
    | none => exact ⟨_, _, _, trivial, rfl, rfl⟩
    | some r => exact ⟨_, _, _, trivial, rfl, rfl⟩
  generalize qend src pos q = en at *
  rw [htup]
  have HR : Hid (qres src pos kind q unt = .tuple #[.int .i64 k, .string text, .string val, .int .i64 en]) := hres
  clear htup hres hend hL hb2
  go_wp2_with fail
  refine (lexerFields_any w.heap.size 0 src en mk md _ hL2).mono ?_
  rintro e w3 ⟨rfl, n3, rfl⟩
  go_wp2_with fail
  refine (model_any src pos kind q unt _ (by omega) hp).mono ?_
  rintro e w4 ⟨rfl, hb4⟩
  rw [HR.out]
  clear HR hL2
  go_wp2
  go_ret
  exact ⟨rfl, (below_drewN hB2 n3).trans (hb4.mono hB2.size)⟩

theorem str_toList (l : List UInt8) : (str l).data.toList = l := rfl
theorem bytes_ext {a b : ByteArray} (h : a.data.toList = b.data.toList) : a = b := by
  cases a; cases b; simp only [ByteArray.mk.injEq]; exact Array.toList_inj.1 h

theorem app_list (a b : ByteArray) : (a ++ b).data.toList = a.data.toList ++ b.data.toList := by
  simp

theorem dlit_length (q : UInt8) (v : ByteArray) : (str (dlit q v)).size = (dbl q v.data.toList).length + 2 := by
  rw [← len_size, str_toList]; simp [dlit]

/-- The round trip, over the whole source. -/
theorem trip (pre v suf : ByteArray) (q : UInt8) (h : ∀ c l', suf.data.toList = c :: l' → c ≠ q) :
    qv q ((pre ++ str (dlit q v) ++ suf).data.toList.drop (pre.size + 1)) = some (v.data.toList, (dbl q v.data.toList).length + 1) ∧
    (pre ++ str (dlit q v) ++ suf).extract pre.size (pre.size + 1 + ((dbl q v.data.toList).length + 1)) = str (dlit q v) := by
  have e : (pre ++ str (dlit q v) ++ suf).data.toList = pre.data.toList ++ (q :: (dbl q v.data.toList ++ q :: suf.data.toList)) := by
    rw [app_list, app_list, str_toList]; simp [dlit]
  have hl := len_size pre
  constructor
  · rw [e, ← hl, List.drop_append, List.drop_of_length_le (by omega)]
    simp only [Nat.add_sub_cancel_left, List.drop_succ_cons, List.drop_zero, List.nil_append]
    exact qv_dbl q _ _ h
  · apply bytes_ext
    rw [Lib.extract_data, e, ← hl, List.drop_append_of_le_length (Nat.le_refl _), List.drop_length, List.nil_append, str_toList]
    rw [show pre.data.toList.length + 1 + ((dbl q v.data.toList).length + 1) - pre.data.toList.length = (dlit q v).length from by simp [dlit]; omega]
    have e2 : q :: (dbl q v.data.toList ++ q :: suf.data.toList) = dlit q v ++ suf.data.toList := by simp [dlit]
    rw [e2, List.take_left]

theorem size_app (a b : ByteArray) : (a ++ b).size = a.size + b.size := by simp

set_option maxRecDepth 20000 in
set_option maxHeartbeats 2000000 in
theorem undo_main (pre v suf : ByteArray) (q : UInt8) (kind : Int) (w : World) (h1 : pre.size ≤ 262144) (h2 : v.size ≤ 262144) (h3 : suf.size ≤ 262144) (h4 : pre.size + 2 * v.size + 2 + suf.size ≤ 1048576) (hq : ∀ h : 0 < suf.size, suf[0] ≠ q) :
    Calls Try.prog 4 #[.string pre, .string v, .string suf, .int .u8 q.toNat, .int .i64 kind] w fun e w' => e = .returned (.bool true) ∧ Below w.heap.size w w' := by
  have hq' : ∀ c l', suf.data.toList = c :: l' → c ≠ q := by
    intro c l' e
    have hz : 0 < suf.size := by rw [← len_size, e]; simp
    have := at_list suf 0 hz
    simp only [e, List.getElem_cons_zero] at this
    rw [this]; exact hq hz
  have HT : Hid _ := trip pre v suf q hq'
  have hdl := dbl_length q v.data.toList
  rw [len_size] at hdl
  have hqs : ¬ (0 < suf.size) ∨ ∃ h : 0 < suf.size, ((suf[0].toNat : Int) == (q.toNat : Int)) = false := by
    by_cases h : 0 < suf.size
    · refine .inr ⟨h, ?_⟩
      simp; intro e; exact hq h (UInt8.toNat_inj.1 (by omega))
    · exact .inl h
  have hsz : (pre ++ str (dlit q v) ++ suf).size = pre.size + ((dbl q v.data.toList).length + 2) + suf.size := by rw [size_app, size_app, dlit_length]
  have HZ : Hid ((pre ++ str (dlit q v) ++ suf).size = pre.size + ((dbl q v.data.toList).length + 2) + suf.size) := hsz
  have HZ2 : Hid ((str (dlit q v)).size = (dbl q v.data.toList).length + 2) := dlit_length q v
  clear hsz hq hq'
  rcases hqs with hqs | ⟨hqs, hqb⟩
  all_goals
    go_enter Try.func4, Try.ntmps4
    go_wp2_with (go_at_call 12; go_in)
    refine (doubled_any v q _ (by omega)).mono ?_
    rintro e w1 ⟨rfl, hb1⟩
    have hz2 := HZ2.out
    go_wp2_with fail
    obtain ⟨S, hS⟩ : ∃ S, S = pre ++ str (dlit q v) ++ suf := ⟨_, rfl⟩
    rw [← hS]
    have HT2 := HT.out
    have hz3 := HZ.out
    rw [← hS] at HT2 hz3
    obtain ⟨hqv, hex⟩ := HT2
    have htup : qtup S pre.size kind q (ByteArray.mk #[117, 110, 116, 101, 114, 109, 105, 110, 97, 116, 101, 100]) = .tuple #[.int .i64 kind, .int .i64 0, .string (str (dlit q v)), .string v, .int .i64 0] := by
      unfold qtup; rw [hqv]; simp only; rw [hex]; rfl
    have hen : qend S pre.size q = pre.size + 1 + ((dbl q v.data.toList).length + 1) := by
      unfold qend; rw [hqv]
    have HEN : Hid (qend S pre.size q = pre.size + (str (dlit q v)).size) := by rw [hen, hz2]; show _ = _; omega
    clear hS hqv hex hen HT HZ
    refine (newLexer_any S pre.size false 0 _).mono ?_
    rintro e w2 ⟨rfl, rfl⟩
    have hL := lexAt_new S pre.size false 0 w1
    go_wp2_with fail
    refine (zzQuoted_any w1.heap.size 0 S pre.size false 0 kind q _ _ (by omega) (by omega) hL).mono ?_
    rintro e w2 ⟨rfl, hb2⟩
    have hL2 := (hL.setPos (qend S pre.size q)).below hb2 hL.lt
    have hB2 : Below w.heap.size w w2 := (((hb1.alloc hb1.size (lexObj S pre.size false 0)).setCell (p := ⟨w1.heap.size, 0 + 1, none⟩) hb1.size _)).trans (hb2.mono (by have := hb1.size; simp; omega))
    rw [htup]
    generalize qend S pre.size q = en at *
    have hfin : ((en : Int) == (pre.size : Int) + ((str (dlit q v)).size : Int)) = true := by have := HEN.out; simp; omega
    have hz4 : (str (dlit q v)).size ≤ 524290 := by omega
    clear htup hL hb2 HEN hz2 hz3 HZ2
    go_wp2_with fail
    refine (lexerFields_any w1.heap.size 0 S en false 0 _ hL2).mono ?_
    rintro e w3 ⟨rfl, n3, rfl⟩
    go_wp2
    go_ret
    exact ⟨rfl, below_drewN hB2 n3⟩
end Go.Proofs.Qxb6604722a
