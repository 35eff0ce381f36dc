import Derived.Test.Qxb6605469aNm
import Derived.BigRegion
set_option linter.unusedSimpArgs false
set_option linter.unusedVariables false
namespace Go.Proofs.Qxb6605469a
open Go.ChangeShapes Go.WideShapes Go.ChangeAt Go.RowKit

/-- append to a row of the call's own, as one step of a region that draws its order. -/
theorem step_append_own {P : Program} {ops : Array Oper} {o : Oper} {a : Act} {w : World} {K : Act → World → Prop} {Q : Exit → Act → World → Prop} {E : Prop}
    (hg : o.guard = none) (s x : Operand) (t : TypeId) (hop : o.op = Op.call { callee := Callee.builtin Builtin.append, args := #[s, x], argTypes := #[t, t] })
    (base : Nat) (e : TypeId) (i : TypeInfo) (z : Value) (size bytes : Nat) (h1 : P.underlying t = some (.slice e)) (h2 : P.info? e = some i) (h3 : i.zero = some z) (h4 : i.size = size) (h5 : i.bytes = bytes) (h6 : z.cells.size = size) (h7 : 0 < size)
    (v : Value) (n : Nat) (xs : List Value) (hs : a.eval s = v) (hown : w.ownsRow base e size v n xs)
    (ad : Addr) (m c : Nat) (news : List Value) (hx : a.eval x = .slice (some ad) m c) (hn : news.length = m * size) (hc : ∀ j u, news[j]? = some u → w.cell? (ad.add j) = some u) (h1c : ∀ u ∈ news, u.oneCell' = true)
    (b1 : n + m ≤ maxLen) (b2 : (n + m) * bytes ≤ 140737488355328) (hb : base ≤ w.heap.size)
    (hK : ∀ v' w', w'.ownsRow base e size v' (n + m) (xs ++ news) → w.grownBy w' v.ownBlock → K (a.put o.dst v') w') :
    if Region.wanted o (yielded ops a.tmps) = true then Oper.wp P o a w K Q else E := by
  have hw : Region.wanted o (yielded ops a.tmps) = true := by simp [Region.wanted, hg]
  rw [if_pos hw]
  obtain ⟨v', w', hrun, r1, r2, _⟩ := run_append_own (P := P) w base t o.type e i z size bytes h1 h2 h3 h4 h5 h6 h7 v n xs hown ad m c news hn hc h1c b1 b2 hb
  unfold Oper.wp
  simp [execOp, hop, resolve, invoke, builtin, hs, hx, hrun, Result.andThen]
  exact hK v' w' r1 r2

theorem heap_setCell_id {w : World} {p : Addr} {v : Value} (h : w.cell? p = some v) (k : Nat) : (w.setCell p v).heap[k]? = w.heap[k]? := by
  simp only [World.setCell, Array.getElem?_modify]
  by_cases hk : p.block = k
  · subst hk
    simp only [if_true]
    unfold World.cell? at h
    split at h
    · rename_i c e f hb
      rw [hb]
      simp only [Option.map_some]
      congr 2
      split at h
      · cases h
      · rename_i hsp
        rw [if_neg hsp]
        apply Array.ext
        · simp
        · intro i h1 h2
          rw [Array.getElem_setIfInBounds]
          by_cases e2 : p.off = i
          · subst e2
            rw [if_pos rfl]
            have := Array.getElem?_eq_some_iff.1 h
            exact this.2.symm
          · rw [if_neg e2]
    · cases h
  · simp [hk]
theorem Byts.cellAt {W : World} {g n : Nat} {bs : List UInt8} (h : Byts W (some ⟨g, 0, none⟩) n bs) (j : Nat) (hj : j < n) : W.cell? ⟨g, j, none⟩ = some (.int .u8 ((bs.getD j 0).toNat : Int)) := by
  obtain ⟨b, o, e, hc⟩ := h.at j hj
  injection e with e; injection e with e1 e2 _; subst e1 e2
  rw [Nat.zero_add] at hc
  exact hc
theorem below_self {w : World} {p : Addr} {v : Value} (h : w.cell? p = some v) : Below w.heap.size (w.setCell p v) w :=
  ⟨rfl, rfl, rfl, by rw [size_setCell]; exact Nat.le_refl _, fun k _ => (heap_setCell_id h k).symm⟩

set_option maxRecDepth 20000 in
set_option maxHeartbeats 8000000 in
theorem name_any (R gb cap N i n : Nat) (xs : List ByteArray) (tl : List UInt8) (W0 : World) (hR : RAt W0 R (.slice (some ⟨gb, 0, none⟩) N cap) (12 + fr xs i)) (hb : Byts W0 (some ⟨gb, 0, none⟩) N (msgB xs n tl)) (hne : gb ≠ R) (hcap : N ≤ cap) (hN : N ≤ 1048576) (hN2 : 12 + fr xs n < N) (hin : i ≤ n) (hn : n ≤ 4096) (hsz : ∀ j, j < n → 1 ≤ (lbl xs j).size ∧ (lbl xs j).size ≤ 63) (hf : fr xs n ≤ 254) :
    Calls Try.prog 25 #[.pointer (some ⟨R, 0, none⟩)] W0 fun e w' => ∃ v, e = .returned (.tuple #[v, .bool true]) ∧ NM W0 w' R (12 + fr xs n + 1) v (lowsT xs i (n - i)) := by
  obtain ⟨i9, hi9, hz9, hs9, hb9⟩ := info_parts info9
  have HR : Hid (RAt W0 R (.slice (some ⟨gb, 0, none⟩) N cap) (12 + fr xs i)) := hR
  have HB : Hid (Byts W0 (some ⟨gb, 0, none⟩) N (msgB xs n tl)) := hb
  have HZ : Hid (∀ j, j < n → 1 ≤ (lbl xs j).size ∧ (lbl xs j).size ≤ 63) := hsz
  have hRl := hR.lt
  have HFR : Hid (∀ k, k ≤ n → fr xs k ≤ fr xs n) := fun k hk => by
    rcases Nat.lt_or_eq_of_le hk with h | h
    · have := fr_lt xs h; omega
    · rw [h]; exact Nat.le_refl _
  have HFI : Hid (∀ k, i ≤ k → fr xs i ≤ fr xs k) := fun k hk => by
    rcases Nat.lt_or_eq_of_le hk with h | h
    · have := fr_lt xs h; omega
    · rw [h]; exact Nat.le_refl _
  clear hR hb hsz
  go_enter Try.func25, Try.ntmps25
  go_wp2_with fail
  go_loopg [4, 5] (n - i + 1) (fun g v x W => ∃ m : Nat, m + g = n - i + 1 ∧ i + m ≤ n ∧ x = .int .i64 (fr xs (i + m) - fr xs i : Nat) ∧ NM W0 W R (12 + fr xs (i + m)) v (lowsT xs i m))
  case atStart => exact ⟨0, by omega, by omega, by simp, ⟨below_self HR.out.c1, World.ownsRow_nil _ _ _ _⟩⟩
  case round =>
    obtain ⟨m, hg, hm, rfl, hM⟩ := hrel
    have hls := lowsT_len xs i m
    have h1 := HFR.out (i + m) hm
    have h2 := HFI.out (i + m) (by omega)
    obtain ⟨A, hA⟩ : ∃ A, A = 12 + fr xs (i + m) := ⟨_, rfl⟩
    obtain ⟨S, hS⟩ : ∃ S, S = fr xs (i + m) - fr xs i := ⟨_, rfl⟩
    rw [← hA] at hM
    rw [← hS]
    have HAS : Hid (A = 12 + fr xs (i + m) ∧ S = fr xs (i + m) - fr xs i) := ⟨hA, hS⟩
    have hAN : A < N := by omega
    have hS2 : S ≤ 254 := by omega
    have hA2 : A ≤ 266 := by omega
    have HLS : Hid (lowsT xs i (m + 1) = lowsT xs i m ++ [low (lbl xs (i + m))] ∧ (i + m = n → lowsT xs i m = lowsT xs i (n - i))) := ⟨rfl, fun e => by rw [← e]; congr 1; omega⟩
    generalize lowsT xs i m = ls at hls hM HLS
    subst hls
    obtain ⟨a, ac, rfl⟩ := own_shape hM.own
    have HM : Hid (NM W0 wr R A (.slice a ls.length ac) ls) := hM
    have hRA := hM.rat HR.out
    have c0 := hRA.c0
    have c1 := hRA.c1
    clear hM hRA hA hS h1 h2
    have hd1 : decide ((N : Int) ≤ (A : Int)) = false := decide_eq_false (by omega)
    have hs255 : (S : Int) < 255 := by omega
    go_upto_region 4 with fail
    go_quiet (fail)
    have HM2 : Hid (NM W0 (wr.drewN nq) R A (.slice a ls.length ac) ls) := HM.out.drewN nq
    have c0' := (HM2.out.rat HR.out).c0
    have c1' := (HM2.out.rat HR.out).c1
    have hcA := Byts.cellAt (HM2.out.byts HB.out hne) A hAN
    generalize wr.drewN nq = w1 at HM2 c0' c1' hcA ⊢
    clear c0 c1 HM
    have hi1 : (A : Int) < (N : Int) := by omega
    have hi2 : (0 : Int) ≤ (A : Int) := by omega
    by_cases hlt : i + ls.length < n
    · have hmsg := msg_label (xs := xs) tl hlt
      have hsz := HZ.out _ hlt
      have hA3 := HAS.out.1
      rw [← hA3] at hmsg
      obtain ⟨hm1, hm2⟩ := hmsg
      rw [hm1] at hcA
      have HX : Hid (fr xs (i + ls.length + 1) = fr xs (i + ls.length) + ((lbl xs (i + ls.length)).size + 1)) := rfl
      have hfn := HFR.out (i + ls.length + 1) (by omega)
      have HLS2 := HLS.out.1
      have HLS3 : Hid _ := HLS2
      clear HLS2 HLS
      have HM2b : Hid (∀ t, t < (lbl xs (i + ls.length)).size → (msgB xs n tl).getD (A + 1 + t) 0 = (lbl xs (i + ls.length)).data.toList.getD t 0) := hm2
      clear hm1 hm2 hA3
      generalize lbl xs (i + ls.length) = x at *
      have hcs : ((UInt8.ofNat x.size).toNat : Int) = (x.size : Int) := by rw [UInt8.toNat_ofNat_of_lt' (by show x.size < 256; omega)]
      rw [hcs] at hcA
      clear hcs
      have hAx : A + 1 + x.size ≤ N := by have := HX.out; have := HAS.out.1; omega
      go_upto_region 6 with fail
      go_quiet (fail)
      have HM3 : Hid (NM W0 (w1.drewN nq) R A (.slice a ls.length ac) ls) := HM2.out.drewN nq
      have hsk := skip_any R (some ⟨gb, 0, none⟩) N cap A (1 + x.size) (w1.drewN nq) (HM3.out.rat HR.out) (by omega) hN
      rw [show ((1 + x.size : Nat) : Int) = 1 + (x.size : Int) by omega] at hsk
      generalize w1.drewN nq = w2 at HM3 hsk ⊢
      have HSK : Hid _ := hsk
      clear c0' c1' hcA HM2 hsk
      have hsz1 := hsz.1
      have hsz2 := hsz.2
      have hz0' : ((x.size : Int) == 0) = false := beq_eq_false_iff_ne.2 (by omega)
      clear hsz
      go_wp2_with fail
      refine Calls.mono HSK.out ?_
      rintro e w3 ⟨rfl, m2, rfl⟩
      have HM4 : Hid (NM W0 ((w2.setCell ⟨R, 1, none⟩ (.int .i64 (A + (1 + x.size) : Nat))).drewN m2) R (A + (1 + x.size)) (.slice a ls.length ac) ls) := (HM3.out.move hRl _).drewN m2
      generalize (w2.setCell ⟨R, 1, none⟩ (.int .i64 (A + (1 + x.size) : Nat))).drewN m2 = w3 at HM4 ⊢
      clear HSK HM3
      obtain ⟨A2, hA2e⟩ : ∃ A2, A2 = A + (1 + x.size) := ⟨_, rfl⟩
      obtain ⟨A1, hA1e⟩ : ∃ A1, A1 = A + 1 := ⟨_, rfl⟩
      rw [← hA2e] at HM4
      have HA12 : Hid (A2 = A + (1 + x.size) ∧ A1 = A + 1) := ⟨hA2e, hA1e⟩
      have hsub : A2 - A1 = x.size := by omega
      have hl4 : ls.length ≤ 4096 := by omega
      have q1 : (A2 : Int) ≤ (cap : Int) := by omega
      have q2 : (0 : Int) ≤ (A2 : Int) := by omega
      have q3 : (A1 : Int) ≤ (A2 : Int) := by omega
      have q4 : ¬ cap = A1 := by omega
      have q5 : max (A2 : Int) 0 = (A2 : Int) := by omega
      have q6 : (0 : Int) ≤ (A1 : Int) := by omega
      have hw1 : IntKind.i64.wrap ((A2 : Int) - (x.size : Int)) = (A1 : Int) := by rw [IntKind.wrap_i64]; omega
      have c0 := (HM4.out.rat HR.out).c0
      have c1 := (HM4.out.rat HR.out).c1
      have hby := HM4.out.byts HB.out hne
      have hconv := run_convert_bytes_back (P := Try.prog) w3.drew 23 9 5 ⟨gb, A1, none⟩ (cap - A1) x.data.toList Try.underlying23 Try.underlying5 Try.underlying9 (fun t ht => by
        rw [len_size] at ht
        rw [add_plain]
        rw [hA1e]
        show w3.cell? ⟨gb, A + 1 + t, none⟩ = _
        rw [Byts.cellAt hby (A + 1 + t) (by omega), HM2b.out t ht, getD_at x t ht, at_list x t ht])
      rw [len_size, Lib.mk_data] at hconv
      clear hby
      clear hA2e hA1e
      go_upto_region 14 with fail
      go_cut [4] from 50 to 69 (fun v W => ∃ a' ac', v = .slice a' (ls.length + 1) ac' ∧ NM W0 W R A2 (.slice a' (ls.length + 1) ac') (ls ++ [low x]))
      case first =>
        go_region_law (first
          | (refine step_call rfl 31 (.tmp 66) 9 rfl (.string x) (.string (low x)) (fun W => Below w3.heap.size w3.drew W) (by simp [Act.eval, Act.put]) enters31 (lowerASCII_any x _ (by omega)) ?_; intro W2 hb2)
          | (refine step_append_own rfl (.tmp 50) (.tmp 68) 24 rfl W0.heap.size 9 i9 (.string ⟨#[]⟩) 1 16 Try.underlying24 hi9 hz9 hs9 hb9 rfl (by decide) (.slice a ls.length ac) ls.length (ls.map sv) (by simp [Act.eval, Act.put]) (((HM4.out.drewN 1).grown hb2).alloc _).own ⟨W2.heap.size, 0, none⟩ 1 1 [.string (low x)] (by simp [Act.eval, Act.put]) rfl (cell_one_new _ _ _) (by intro u hu; simp at hu; subst hu; rfl) (by unfold maxLen; omega) (by omega) (((HM4.out.drewN 1).grown hb2).alloc _).size ?_; intro v' w5 hown hgrow; obtain ⟨a5, ac5, rfl⟩ := own_shape hown))
        all_goals (try go_wp2_with fail)
        all_goals go_meet
        all_goals exact ⟨a5, ac5, rfl, (((HM4.out.drewN 1).grown hb2).alloc _).push hown hgrow⟩
      case rest =>
        obtain ⟨a', ac', rfl, hM5⟩ := hcut
        have HM5 : Hid (NM W0 wc R A2 (.slice a' (ls.length + 1) ac') (ls ++ [low x])) := hM5
        clear hM5 HM4 c0 c1 hconv hw1 q1 q2 q3 q4 q5 q6 hsub
        have hAA : A2 = 12 + fr xs (i + (ls.length + 1)) := by
          have e1 := HX.out
          have e2 := HAS.out.1
          have e3 := HA12.out.1
          rw [show i + (ls.length + 1) = i + ls.length + 1 from rfl, e1]; omega
        have HSS : Hid ((S : Int) + (1 + (x.size : Int)) = ((fr xs (i + (ls.length + 1)) - fr xs i : Nat) : Int)) := by
          have e1 := HX.out
          have e2 := HAS.out.2
          have e4 := HFI.out (i + ls.length) (by omega)
          show _ = _
          rw [show i + (ls.length + 1) = i + ls.length + 1 from rfl, e1]; omega
        have HM6 : Hid (NM W0 wc R (12 + fr xs (i + (ls.length + 1))) (.slice a' (ls.length + 1) ac') (lowsT xs i (ls.length + 1))) := by rw [← hAA, HLS3.out]; exact HM5.out
        clear hAA HM5 HA12
        go_wp2
        go_roundg (gk - 1)
        case measure => omega
        case rel => exact ⟨ls.length + 1, by omega, by omega, by rw [← HSS.out], HM6.out⟩
    · obtain rfl : n = i + ls.length := by omega
      have hmsg := msg_end xs (i + ls.length) tl
      rw [← HAS.out.1] at hmsg
      rw [hmsg] at hcA
      have hcA' : w1.cell? ⟨gb, A, none⟩ = some (.int .u8 0) := hcA
      clear hcA hmsg
      go_upto_region 6 with fail
      go_quiet (fail)
      have HM3 : Hid (NM W0 (w1.drewN nq) R A (.slice a ls.length ac) ls) := HM2.out.drewN nq
      have HM4 : Hid (NM W0 ((w1.drewN nq).setCell ⟨R, 1, none⟩ (.int .i64 (A + 1 : Nat))) R (A + 1) (.slice a ls.length ac) ls) := HM3.out.move hRl _
      have c0 := (HM3.out.rat HR.out).c0
      have c1 := (HM3.out.rat HR.out).c1
      have f1 := (HM3.out.rat HR.out).fr 1
      generalize w1.drewN nq = w2 at HM3 HM4 c0 c1 f1 ⊢
      have HLe : Hid (ls = lowsT xs i (i + ls.length - i)) := HLS.out.2 rfl
      clear c0' c1' hcA' HM2 HLS HM3
      go_wp2
      refine bodyPost_ret (v := .tuple #[.slice a ls.length ac, .bool true]) (by simp [results, Try.results25, go_sem]) rfl ⟨_, rfl, ?_⟩
      rw [← HLe.out, ← HAS.out.1]
      exact HM4.out
end Go.Proofs.Qxb6605469a
