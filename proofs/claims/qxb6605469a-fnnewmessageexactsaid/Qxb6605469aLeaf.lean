import Derived.Test.Qxb6605469aRows
import Derived.WalkKit
import Derived.ProofKit
import Derived.OpenShut
import Derived.Below
import Derived.WalkSpells
import Derived.WalkLawsBesides
import Derived.Outline
import Derived.RegionTactic
import Derived.ChangeAlike
import Derived.Deep.QuietTactic
import Derived.BigQuiet
import Derived.Deep.DeepCutAuto
import Derived.Deep.CutBlock
import Derived.Deep.OwnRows
import Derived.Laws.CopyOwn
set_option linter.unusedSimpArgs false
set_option linter.unusedVariables false
namespace Go.Proofs.Qxb6605469a
open Go.ChangeShapes Go.WideShapes Go.ChangeAt Go.RowKit

theorem ret_bool {a b : Bool} (h : a = b) : Ending.returned (.bool a) = .returned (.bool b) := by rw [h]
theorem info5 : (Try.prog.info? 5).map (fun i => (i.zero, i.size, i.bytes)) = some (some (.int .u8 0), 1, 1) := by kernel_rfl
theorem info9 : (Try.prog.info? 9).map (fun i => (i.zero, i.size, i.bytes)) = some (some (.string ⟨#[]⟩), 1, 16) := by kernel_rfl

theorem either {a b c d : Prop} (h : a ∨ b) (f : a → c) (g : b → d) : c ∨ d := by
  rcases h with h | h
  · exact .inl (f h)
  · exact .inr (g h)

/-- The cells of a slice of one-cell elements: nothing in it, or its cells. -/
def Row (w : World) (a : Option Addr) (n : Nat) (vs : List Value) : Prop :=
  vs.length = n ∧ (n = 0 ∨ ∃ b o, a = some ⟨b, o, none⟩ ∧ b < w.heap.size ∧ ∀ j x, vs[j]? = some x → w.cell? ⟨b, o + j, none⟩ = some x)
def sv (x : ByteArray) : Value := .string x
def bv (x : UInt8) : Value := .int .u8 x.toNat
/-- A slice of strings, as it came. -/
def Strs (w : World) (a : Option Addr) (n : Nat) (xs : List ByteArray) : Prop := Row w a n (xs.map sv)
/-- A slice of bytes, as it came. -/
def Byts (w : World) (a : Option Addr) (n : Nat) (bs : List UInt8) : Prop := Row w a n (bs.map bv)

theorem Row.at {w : World} {a : Option Addr} {n : Nat} {vs : List Value} (h : Row w a n vs) (k : Nat) (hk : k < n) : ∃ b o v, a = some ⟨b, o, none⟩ ∧ vs[k]? = some v ∧ w.cell? ⟨b, o + k, none⟩ = some v := by
  obtain ⟨hlen, h0 | ⟨b, o, rfl, hb, hc⟩⟩ := h
  · omega
  · exact ⟨b, o, _, rfl, List.getElem?_eq_getElem (by omega), hc k _ (List.getElem?_eq_getElem (by omega))⟩
theorem Row.below {w w' : World} {a : Option Addr} {n B : Nat} {vs : List Value} (h : Row w a n vs) (hb : Below B w w') (hB : n = 0 ∨ ∃ b o, a = some ⟨b, o, none⟩ ∧ b < B) : Row w' a n vs := by
  obtain ⟨hlen, h0 | ⟨b, o, rfl, hbl, hc⟩⟩ := h
  · exact ⟨hlen, .inl h0⟩
  · refine ⟨hlen, ?_⟩
    rcases hB with h0 | ⟨b', o', e, hB⟩
    · exact .inl h0
    · injection e with e; injection e with e1 e2 _; subst e1 e2
      exact .inr ⟨b, o, rfl, Nat.lt_of_lt_of_le hbl hb.size, fun j x hj => (hb.cell (p := ⟨b, o + j, none⟩) hB).trans (hc j x hj)⟩
theorem Row.below' {w w' : World} {a : Option Addr} {n : Nat} {vs : List Value} (h : Row w a n vs) (hb : Below w.heap.size w w') : Row w' a n vs :=
  h.below hb (either h.2 id fun ⟨b, o, e, hb, _⟩ => ⟨b, o, e, hb⟩)
theorem Row.ofCells {w : World} {g t : Nat} {vs : List Value} (h : w.heap[g]? = some (.cells vs.toArray t (0, 0))) : Row w (some ⟨g, 0, none⟩) vs.length vs :=
  ⟨rfl, .inr ⟨g, 0, rfl, (Array.getElem?_eq_some_iff.1 h).1, fun j x hj => by rw [Nat.zero_add]; simp [World.cell?, h]; simpa using hj⟩⟩

theorem Strs.at {w : World} {a : Option Addr} {n : Nat} {xs : List ByteArray} (h : Strs w a n xs) (k : Nat) (hk : k < n) : ∃ b o, a = some ⟨b, o, none⟩ ∧ w.cell? ⟨b, o + k, none⟩ = some (.string (xs.getD k ByteArray.empty)) ∧ xs.getD k ByteArray.empty ∈ xs := by
  obtain ⟨b, o, v, rfl, hv, hc⟩ := Row.at h k hk
  have hl : k < xs.length := by have := h.1; simp at this; omega
  rw [List.getElem?_map, List.getElem?_eq_getElem hl] at hv
  have e : xs.getD k ByteArray.empty = xs[k] := by simp [List.getD, List.getElem?_eq_getElem hl]
  have : v = sv xs[k] := (Option.some.inj hv).symm
  subst this
  exact ⟨b, o, rfl, by rw [hc, e]; rfl, by rw [e]; exact List.getElem_mem _⟩
theorem Strs.len {w : World} {a : Option Addr} {n : Nat} {xs : List ByteArray} (h : Strs w a n xs) : xs.length = n := by have := h.1; simpa using this
theorem Byts.at {w : World} {a : Option Addr} {n : Nat} {xs : List UInt8} (h : Byts w a n xs) (k : Nat) (hk : k < n) : ∃ b o, a = some ⟨b, o, none⟩ ∧ w.cell? ⟨b, o + k, none⟩ = some (.int .u8 ((xs.getD k 0).toNat : Int)) := by
  obtain ⟨b, o, v, rfl, hv, hc⟩ := Row.at h k hk
  have hl : k < xs.length := by have := h.1; simp at this; omega
  rw [List.getElem?_map, List.getElem?_eq_getElem hl] at hv
  have e : xs.getD k 0 = xs[k] := by simp [List.getD, List.getElem?_eq_getElem hl]
  have : v = bv xs[k] := (Option.some.inj hv).symm
  subst this
  exact ⟨b, o, rfl, by rw [hc, e]; rfl⟩
theorem Byts.len {w : World} {a : Option Addr} {n : Nat} {xs : List UInt8} (h : Byts w a n xs) : xs.length = n := by have := h.1; simpa using this

set_option maxHeartbeats 1000000 in
theorem zzBytes_any (i f qt qc pl ef ev sz : Int) (ed : Bool) (a : Option Addr) (n c : Nat) (la : Option Addr) (ln lc : Nat) (xs : List ByteArray) (w : World) (hl : Strs w la ln xs) (hn : n ≤ maxLen) (hln : ln ≤ maxLen) (hx : ∀ x ∈ xs, x.size ≤ maxLen) :
    Calls Try.prog 8 #[.int .u16 i, .int .u16 f, .slice a n c, .slice la ln lc, .int .u16 qt, .int .u16 qc, .bool ed, .int .u16 pl, .int .u16 ef, .int .u8 ev, .int .i64 sz] w fun e w' => ∃ b, e = .returned (.bool b) ∧ w' = w := by
  unfold maxLen at hn hln hx
  by_cases h1 : 1048576 < n
  · go_enter Try.func8, Try.ntmps8
    go_wp2
    go_ret
    exact ⟨_, rfl, rfl⟩
  by_cases h2 : 1048576 < ln
  · go_enter Try.func8, Try.ntmps8
    go_wp2
    go_ret
    exact ⟨_, rfl, rfl⟩
  by_cases h3 : 1048576 < n + ln
  · go_enter Try.func8, Try.ntmps8
    go_wp2
    go_ret
    exact ⟨_, rfl, rfl⟩
  go_enter Try.func8, Try.ntmps8
  go_wp2
  go_loopw [24, 23] (fun x t wr => wr = w ∧ ∃ k m : Nat, k ≤ ln ∧ m ≤ 1048576 ∧ x = .int .i64 k ∧ t = .int .i64 m) (fun x _ _ => ln - (intOf x).toNat)
  case atStart => exact ⟨rfl, 0, n + ln, Nat.zero_le _, by omega, rfl, by go_num⟩
  case round =>
    obtain ⟨rfl, k, m, hk, hm, rfl, rfl⟩ := hrel
    by_cases hlt : k < ln
    · obtain ⟨b, o, rfl, hck, hmem⟩ := hl.at k hlt
      have hxs := hx _ hmem
      generalize xs.getD k ByteArray.empty = x at hck hxs
      clear hl hx hmem
      by_cases c1 : 1048576 < x.size
      · go_wp2
        go_ret
        exact ⟨_, rfl, rfl⟩
      by_cases c2 : 1048576 < m + x.size
      · go_wp2
        go_ret
        exact ⟨_, rfl, rfl⟩
      go_wp2
      go_roundw
      case rel => exact ⟨trivial, k + 1, m + x.size, by omega, by omega, by go_num, by go_num⟩
      case measure => simp [intOf]; omega
    · go_wp2
      go_ret
      exact ⟨_, rfl, rfl⟩

set_option maxHeartbeats 1000000 in
theorem zzBytes2_any (qt qc : Int) (la : Option Addr) (ln lc : Nat) (xs : List ByteArray) (w : World) (hl : Strs w la ln xs) (hln : ln ≤ maxLen) (hx : ∀ x ∈ xs, x.size ≤ maxLen) :
    Calls Try.prog 13 #[.slice la ln lc, .int .u16 qt, .int .u16 qc] w fun e w' => ∃ b, e = .returned (.bool b) ∧ w' = w := by
  unfold maxLen at hln hx
  by_cases h2 : 1048576 < ln
  · go_enter Try.func13, Try.ntmps13
    go_wp2
    go_ret
    exact ⟨_, rfl, rfl⟩
  go_enter Try.func13, Try.ntmps13
  go_wp2
  go_loopw [8, 7] (fun x t wr => wr = w ∧ ∃ k m : Nat, k ≤ ln ∧ m ≤ 1048576 ∧ x = .int .i64 k ∧ t = .int .i64 m) (fun x _ _ => ln - (intOf x).toNat)
  case atStart => exact ⟨rfl, 0, ln, Nat.zero_le _, by omega, rfl, by go_num⟩
  case round =>
    obtain ⟨rfl, k, m, hk, hm, rfl, rfl⟩ := hrel
    by_cases hlt : k < ln
    · obtain ⟨b, o, rfl, hck, hmem⟩ := hl.at k hlt
      have hxs := hx _ hmem
      generalize xs.getD k ByteArray.empty = x at hck hxs
      clear hl hx hmem
      by_cases c1 : 1048576 < x.size
      · go_wp2
        go_ret
        exact ⟨_, rfl, rfl⟩
      by_cases c2 : 1048576 < m + x.size
      · go_wp2
        go_ret
        exact ⟨_, rfl, rfl⟩
      go_wp2
      go_roundw
      case rel => exact ⟨trivial, k + 1, m + x.size, by omega, by omega, by go_num, by go_num⟩
      case measure => simp [intOf]; omega
    · go_wp2
      go_ret
      exact ⟨_, rfl, rfl⟩

def dot (s : ByteArray) : Bool := s.data.toList.contains 46
theorem dot_at {s : ByteArray} {k : Nat} (hk : k < s.size) (h : s[k] = 46) : dot s = true := by
  simp only [dot, List.contains_iff_mem]
  rw [← h]
  exact List.mem_iff_getElem.2 ⟨k, by simpa using hk, rfl⟩
theorem dot_not {s : ByteArray} (h : ∀ t (ht : t < s.size), s[t] ≠ 46) : dot s = false := by
  rw [← Bool.not_eq_true]
  intro hd
  simp only [dot, List.contains_iff_mem] at hd
  obtain ⟨k, hk, e⟩ := List.mem_iff_getElem.1 hd
  exact h k (by simpa using hk) e

set_option maxHeartbeats 1000000 in
theorem hasDot_any (s : ByteArray) (w : World) (hs : s.size ≤ 1048576) : Calls Try.prog 12 #[.string s] w fun e w' => e = .returned (.bool (dot s)) ∧ w' = w := by
  go_enter Try.func12, Try.ntmps12
  go_wp2
  go_loopw [3] (fun x wr => wr = w ∧ ∃ k : Nat, k ≤ s.size ∧ x = .int .i64 k ∧ Hid (∀ t (h : t < s.size), t < k → s[t] ≠ 46)) (fun x _ => s.size - (intOf x).toNat)
  case atStart => exact ⟨rfl, 0, Nat.zero_le _, rfl, fun t h1 h2 => by omega⟩
  case round =>
    obtain ⟨rfl, k, hk, rfl, hne⟩ := hrel
    by_cases hlt : k < s.size
    · by_cases hq : s[k] = 46
      · have hd := dot_at hlt hq
        have hq' : (s[k].toNat : Int) = 46 := by rw [hq]; rfl
        go_wp2
        go_ret
        exact ⟨ret_bool hd.symm, rfl⟩
      · have hq' : ¬ (s[k].toNat : Int) = 46 := fun e => hq (UInt8.toNat_inj.1 (by show s[k].toNat = 46; omega))
        have hq2 : ((s[k].toNat : Int) == 46) = false := by simpa using hq'
        go_wp2
        go_roundw
        case rel => exact ⟨trivial, k + 1, by omega, by go_num, fun t h1 h2 => by
          by_cases ht : t = k
          · subst ht; exact hq
          · exact hne.out t h1 (by omega)⟩
        case measure => simp [intOf]; omega
    · go_wp2
      go_ret
      exact ⟨ret_bool (dot_not (fun t ht => hne.out t ht (by omega))).symm, rfl⟩

theorem sv_one (xs : List ByteArray) : ∀ v ∈ xs.map sv, v.oneCell' = true := by
  intro v hv; obtain ⟨x, _, rfl⟩ := List.mem_map.1 hv; rfl
theorem bv_one (xs : List UInt8) : ∀ v ∈ xs.map bv, v.oneCell' = true := by
  intro v hv; obtain ⟨x, _, rfl⟩ := List.mem_map.1 hv; rfl
theorem Row.src {w w' : World} {a : Option Addr} {n : Nat} {vs : List Value} (h : Row w a n vs) (hb : Below w.heap.size w w') : 0 < vs.length → ∃ ad, a = some ad ∧ ∀ j v, vs[j]? = some v → w'.cell? (ad.add j) = some v := by
  intro h0
  obtain ⟨hlen, hz | ⟨b, o, rfl, hbl, hc⟩⟩ := h
  · omega
  · exact ⟨_, rfl, fun j v hj => by rw [add_plain]; exact (hb.cell (p := ⟨b, o + j, none⟩) hbl).trans (hc j v hj)⟩
end Go.Proofs.Qxb6605469a
