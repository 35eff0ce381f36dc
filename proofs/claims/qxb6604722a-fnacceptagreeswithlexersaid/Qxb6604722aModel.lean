import Derived.Test.Qxb6604722aBuilder
namespace Go.Proofs.Qxb6604722a
open Go.ChangeShapes Go.WideShapes Go.ChangeAt Go.RowKit
open Pl

theorem ret_bool {a b : Bool} (h : a = b) : Ending.returned (.bool a) = .returned (.bool b) := by rw [h]
theorem ret_int {k : IntKind} {a b : Int} (h : a = b) : Ending.returned (.int k a) = .returned (.int k b) := by rw [h]
theorem ret_of {a b : Value} (h : a = b) : Ending.returned a = .returned b := by rw [h]

/-- The string of the bytes 'l'. -/
def str (l : List UInt8) : ByteArray := ⟨l.toArray⟩

def qres (src : ByteArray) (pos : Nat) (kind : Int) (q : UInt8) (unt : ByteArray) : Value :=
  match qv q (src.data.toList.drop (pos + 1)) with
  | some r => .tuple #[.int .i64 kind, .string (src.extract pos (pos + 1 + r.2)), .string (str r.1), .int .i64 ((pos + 1 + r.2 : Nat) : Int)]
  | none => .tuple #[.int .i64 11, .string (src.extract pos src.size), .string unt, .int .i64 (src.size : Int)]

theorem qres_some {src : ByteArray} {pos : Nat} {q : UInt8} {v : List UInt8} {m : Nat} (kind : Int) (unt : ByteArray) (h : qv q (src.data.toList.drop (pos + 1)) = some (v, m)) :
    qres src pos kind q unt = .tuple #[.int .i64 kind, .string (src.extract pos (pos + 1 + m)), .string (str v), .int .i64 ((pos + 1 + m : Nat) : Int)] := by
  unfold qres; rw [h]
theorem qres_none {src : ByteArray} {pos : Nat} {q : UInt8} (kind : Int) (unt : ByteArray) (h : qv q (src.data.toList.drop (pos + 1)) = none) :
    qres src pos kind q unt = .tuple #[.int .i64 11, .string (src.extract pos src.size), .string unt, .int .i64 (src.size : Int)] := by
  unfold qres; rw [h]

theorem len_size (s : ByteArray) : s.data.toList.length = s.size := (Lib.size_eq s).symm
theorem at_list (s : ByteArray) (i : Nat) (h : i < s.size) : s.data.toList[i]'(by rw [len_size]; exact h) = s[i] := by
  rw [Array.getElem_toList]; rfl

theorem own_cells {w : World} {B n : Nat} {v : Value} {l : List UInt8} (h : w.ownsRow B 5 1 v n (Lib.byteCells l)) (hn : n = l.length) (W : World) (hW : ∀ a, W.cell? a = w.cell? a) : (convert 52 9 v).run Try.prog W = .ok (.string (str l)) W := by
  subst hn
  rcases h.2 with ⟨rfl, h0⟩ | ⟨g, cap, cur, rfl, _⟩
  · have : l = [] := by cases l with
      | nil => rfl
      | cons a l => simp at h0
    subst this
    exact run_convert_bytes_nil (P := Try.prog) (w := W) 52 5 Try.underlying52 Try.underlying5 0 0 9 Try.underlying9
  · refine run_convert_bytes_back (P := Try.prog) W 52 9 5 ⟨g, 0, none⟩ cap l Try.underlying52 Try.underlying5 Try.underlying9 (fun j hj => ?_)
    have hc := h.cellAt j (by simpa using hj)
    rw [hW, add_plain, Nat.zero_add, hc, Lib.byteCells]
    simp [hj]

theorem byteCells_snoc (l : List UInt8) (c : UInt8) : Lib.byteCells (l ++ [c]) = Lib.byteCells l ++ [.int .u8 (c.toNat : Int)] := by simp [Lib.byteCells]

theorem one_new (w : World) (x : Value) (t : TypeId) : ∀ j u, [x][j]? = some u → (w.alloc (.cells #[x] t)).cell? ((⟨w.heap.size, 0, none⟩ : Addr).add j) = some u := cell_one_new w x t

/-- The scan of the model: it stands at 'i' and has gathered 'acc'. -/
structure Mod (w wr : World) (src : ByteArray) (pos : Nat) (q : UInt8) (v : Value) (i : Nat) (acc : List UInt8) : Prop where
  bel : Below w.heap.size w wr
  own : wr.ownsRow w.heap.size 5 1 v acc.length (Lib.byteCells acc)
  far : Far q src.data.toList (pos + 1) i acc

theorem Mod.step {w wr w1 : World} {src : ByteArray} {pos : Nat} {q : UInt8} {v v' : Value} {i j : Nat} {acc : List UInt8} {c : UInt8} {o : Obj} (h : Mod w wr src pos q v i acc)
    (hown : w1.ownsRow w.heap.size 5 1 v' (acc.length + 1) (Lib.byteCells acc ++ [.int .u8 (c.toNat : Int)])) (hg : (wr.alloc o).grownBy w1 v.ownBlock) (hf : Far q src.data.toList (pos + 1) j (acc ++ [c])) : Mod w w1 src pos q v' j (acc ++ [c]) := by
  refine ⟨?_, ?_, hf⟩
  · exact (h.bel.alloc h.bel.size _).grown hg (by have := h.bel.size; simp; omega) (fun k hk => (h.own.lt k hk).1)
  · rw [byteCells_snoc]; simpa using hown

theorem own_shape {w : World} {B n : Nat} {e : TypeId} {v : Value} {xs : List Value} (h : w.ownsRow B e 1 v n xs) : ∃ a cap, v = .slice a n cap := by
  rcases h.2 with ⟨h1, h2⟩ | ⟨g, cap, cur, h1, _⟩
  · exact ⟨none, 0, by rw [h1, h2]⟩
  · exact ⟨_, cap, h1⟩

theorem Mod.step' {w wr w1 : World} {src : ByteArray} {pos : Nat} {q : UInt8} {v v' : Value} {i j : Nat} {acc : List UInt8} {c : UInt8} {o : Obj} (h : Mod w wr src pos q v i acc)
    (hown : w1.ownsRow w.heap.size 5 1 v' (acc.length + 1) (Lib.byteCells acc ++ [.int .u8 (c.toNat : Int)])) (hg : (wr.alloc o).grownBy w1 v.ownBlock) (hf : Far q src.data.toList (pos + 1) j (acc ++ [c])) :
    ∃ a cap, v' = .slice a (acc.length + 1) cap ∧ Mod w w1 src pos q (.slice a (acc.length + 1) cap) j (acc ++ [c]) := by
  obtain ⟨a, cap, hv⟩ := own_shape hown
  subst hv
  exact ⟨a, cap, rfl, h.step hown hg hf⟩

set_option maxHeartbeats 2000000 in
theorem model_any (src : ByteArray) (pos : Nat) (kind : Int) (q : UInt8) (unt : ByteArray) (w : World) (hs : src.size ≤ 1048576) (hp : pos < src.size) :
    Calls Try.prog 11 #[.string src, .int .i64 pos, .int .i64 kind, .int .u8 q.toNat, .string unt] w fun e w' => e = .returned (qres src pos kind q unt) ∧ Below w.heap.size w w' := by
  obtain ⟨i0, hi, hz0, hz1, hz2⟩ := info_parts info5
  have hl : src.data.toList.length = src.size := len_size src
  have HL : Hid (src.data.toList.length = src.size) := hl
  clear hl
  go_enter Try.func11, Try.ntmps11
  go_wp2_with (at_make; refine wpList_make_own _ rfl _ _ 52 rfl w.heap.size 5 i0 (.int .u8 0) 1 Try.underlying52 hi hz0 hz1 .i64 .i64 _ src.size rfl rfl rfl (by rw [hz2]; omega) (by unfold maxLen; omega) (Nat.le_refl _) ?_)
  intro w0 hown0 hg0
  have hM0 : Mod w w0 src pos q (.slice (some ⟨w.heap.size, 0, none⟩) 0 src.size) (pos + 1) [] := ⟨(Below.refl _ _).grown hg0 (Nat.le_refl _) (fun k hk => by cases hk), hown0, Far.start _ _ _⟩
  clear hown0 hg0
  go_wp2_with fail
  go_loopg [14, 15] (src.size - pos) (fun g v i wr => ∃ (k : Nat) (acc : List UInt8) (a : Option Addr) (cap : Nat), pos + 1 ≤ k ∧ k ≤ src.size ∧ k + g = src.size + 1 ∧ i = .int .i64 k ∧ v = .slice a acc.length cap ∧ Mod w wr src pos q v k acc)
  case atStart => exact ⟨pos + 1, [], _, _, by omega, by omega, by omega, by go_num, rfl, hM0⟩
  case round =>
    clear hM0
    obtain ⟨k, acc, a, cap, hk1, hk2, hg, rfl, rfl, hM⟩ := hrel
    have HM : Hid (Mod w wr src pos q (.slice a acc.length cap) k acc) := hM
    have hal : acc.length ≤ k := by have := hM.far.2.1; omega
    clear hM
    by_cases hkn : k < src.size
    · by_cases hc : src[k] = q
      · have hcb : ((src[k].toNat : Int) != (q.toNat : Int)) = false := by rw [hc]; simp
        have hck : src.data.toList[k]'(by rw [HL.out]; exact hkn) = q := by rw [at_list src k hkn]; exact hc
        have HC : Hid (src.data.toList[k]'(by rw [HL.out]; exact hkn) = q) := hck
        clear hc hck
        by_cases hdb : ∃ h : k + 1 < src.size, src[k + 1] = q
        · obtain ⟨hk3, hc2⟩ := hdb
          have hk3' : (k : Int) + 1 < (src.size : Int) := by omega
          have hcb2 : ((src[k + 1].toNat : Int) == (q.toNat : Int)) = true := by rw [hc2]; simp
          have HF : Hid (Far q src.data.toList (pos + 1) (k + 2) (acc ++ [q])) := HM.out.far.twice (by rw [HL.out]; exact hk3) HC.out (by rw [at_list src (k + 1) hk3]; exact hc2)
          clear hc2
          go_wp2_with (at_builtin; refine wpList_append_own _ rfl _ _ 52 rfl w.heap.size 5 i0 (.int .u8 0) 1 1 Try.underlying52 hi hz0 hz1 hz2 rfl (by decide) _ _ _ rfl (HM.out.own.alloc _) ⟨wr.heap.size, 0, none⟩ 1 1 [.int .u8 (q.toNat : Int)] rfl rfl (one_new _ _ _) (by intro u hu; simp at hu; subst hu; rfl) (by unfold maxLen; omega) (by omega) (by have := HM.out.bel.size; simp; omega) ?_)
          intro v' w1 hown' hgrow hnn
          obtain ⟨a2, cap2, hv, hM2⟩ := HM.out.step' hown' hgrow HF.out
          rw [hv]
          clear hown' hgrow hnn hv v'
          go_wp2
          go_roundg (gk - 2)
          case measure => omega
          case rel => exact ⟨k + 2, acc ++ [q], a2, cap2, by omega, by omega, by omega, by go_num, by simp, hM2⟩
        · have HQ : Hid (qv q (src.data.toList.drop (pos + 1)) = some (acc, k + 1 - (pos + 1))) := HM.out.far.close (by rw [HL.out]; exact hkn) HC.out (fun h2 e => hdb ⟨by rw [← HL.out]; exact h2, by rw [at_list src (k + 1) (by rw [← HL.out]; exact h2)] at e; exact e⟩)
          have hconv0 := own_cells HM.out.own rfl wr (fun _ => rfl)
          have hconv1 := own_cells HM.out.own rfl wr.drew (fun _ => rfl)
          have hsl1 : (pos : Int) ≤ (k : Int) + 1 := by omega
          have hsl2 : (k : Int) + 1 ≤ (src.size : Int) := by omega
          have hq2 : ¬ ((k : Int) + 1 < (src.size : Int)) ∨ ∃ h : k + 1 < src.size, ((src[k + 1].toNat : Int) == (q.toNat : Int)) = false := by
            by_cases h : k + 1 < src.size
            · refine .inr ⟨h, ?_⟩
              simp; intro e; exact hdb ⟨h, UInt8.toNat_inj.1 (by omega)⟩
            · exact .inl (by omega)
          clear hdb
          rcases hq2 with hq2 | ⟨hq2, hq3⟩
          all_goals
            go_wp2
            go_region
            go_wp2
            exact bodyPost_ret (v := .tuple #[.int .i64 kind, .string (src.extract pos (k + 1)), .string (str acc), .int .i64 ((k : Int) + 1)]) (by simp [results, Try.results11, go_sem]) rfl ⟨ret_of (by rw [qres_some kind unt HQ.out]; simp only [show pos + 1 + (k + 1 - (pos + 1)) = k + 1 from by omega]; rfl), HM.out.bel.drew⟩
      · have hcb : ((src[k].toNat : Int) != (q.toNat : Int)) = true := by
          simp; intro e; exact hc (UInt8.toNat_inj.1 (by omega))
        have HF : Hid (Far q src.data.toList (pos + 1) (k + 1) (acc ++ [src[k]])) := by
          have := HM.out.far.other (by rw [HL.out]; exact hkn) (by rw [at_list src k hkn]; exact hc)
          rw [at_list src k hkn] at this; exact this
        clear hc
        go_wp2_with (at_builtin; refine wpList_append_own _ rfl _ _ 52 rfl w.heap.size 5 i0 (.int .u8 0) 1 1 Try.underlying52 hi hz0 hz1 hz2 rfl (by decide) _ _ _ rfl (HM.out.own.alloc _) ⟨wr.heap.size, 0, none⟩ 1 1 [.int .u8 (src[k].toNat : Int)] rfl rfl (one_new _ _ _) (by intro u hu; simp at hu; subst hu; rfl) (by unfold maxLen; omega) (by omega) (by have := HM.out.bel.size; simp; omega) ?_)
        intro v' w1 hown' hgrow hnn
        obtain ⟨a2, cap2, hv, hM2⟩ := HM.out.step' hown' hgrow HF.out
        rw [hv]
        clear hown' hgrow hnn hv v'
        go_wp2
        go_roundg (gk - 1)
        case measure => omega
        case rel => exact ⟨k + 1, acc ++ [src[k]], a2, cap2, by omega, by omega, by omega, by go_num, by simp, hM2⟩
    · have hke : k = src.size := by omega
      have HQ : Hid (qv q (src.data.toList.drop (pos + 1)) = none) := HM.out.far.ended (by rw [HL.out]; omega)
      clear hke
      go_wp2
      go_region
      go_wp2
      exact bodyPost_ret (v := .tuple #[.int .i64 11, .string (src.extract pos src.size), .string unt, .int .i64 (src.size : Int)]) (by simp [results, Try.results11, go_sem]) rfl ⟨ret_of (qres_none kind unt HQ.out).symm, HM.out.bel.drew⟩
end Go.Proofs.Qxb6604722a
