import Derived.Test.Qxb6605469aNew
set_option linter.unusedSimpArgs false
set_option linter.unusedVariables false
namespace Go
/-- A region whose operations read slots that are written ahead of them or not at all, and write slots of their own: whatever the order, each meets the same operands. -/
def Region.detB (ops : Array Oper) : Bool :=
  (List.range ops.size).all fun j => match ops[j]? with
   | none => false
   | some oj => oj.guard.isNone && (match oj.op with | .select .. => false | _ => true) &&
      oj.after.all (fun e => !Region.binds .any e || decide (e.on < j)) &&
      (match oj.dst with | none => true | some d => !(oj.looksAt ops).contains d) &&
      (List.range ops.size).all fun i => i == j || match ops[i]? with
        | none => true
        | some oi => match oi.dst with
          | none => true
          | some d => oj.dst != some d && (!(oj.looksAt ops).contains d || oj.after.any fun e => Region.binds .any e && e.on == i)

section
variable {P : Program} {ops : Array Oper}

structure Region.Det (ops : Array Oper) : Prop where
  guard : ∀ (j : Nat) (oj : Oper), ops[j]? = some oj → oj.guard = none
  sel : ∀ (j : Nat) (oj : Oper), ops[j]? = some oj → ∀ cs b, oj.op ≠ .select cs b
  less : ∀ (j : Nat) (oj : Oper), ops[j]? = some oj → ∀ e ∈ oj.after, Region.binds .any e = true → e.on < j
  self : ∀ (j : Nat) (oj : Oper) (d : Tmp), ops[j]? = some oj → oj.dst = some d → d ∉ oj.looksAt ops
  dst : ∀ (j : Nat) (oj : Oper) (i : Nat) (oi : Oper) (d : Tmp), ops[j]? = some oj → ops[i]? = some oi → i ≠ j → oi.dst = some d → oj.dst ≠ some d
  data : ∀ (j : Nat) (oj : Oper) (i : Nat) (oi : Oper) (d : Tmp), ops[j]? = some oj → ops[i]? = some oi → i ≠ j → oi.dst = some d → d ∈ oj.looksAt ops → ∃ e ∈ oj.after, Region.binds .any e = true ∧ e.on = i

theorem Region.det_of (h : Region.detB ops = true) : Region.Det ops := by
  have key : ∀ (j : Nat) (oj : Oper), ops[j]? = some oj → oj.guard.isNone = true ∧ (∀ cs b, oj.op ≠ .select cs b) ∧ (∀ e ∈ oj.after, Region.binds .any e = true → e.on < j) ∧ (∀ d, oj.dst = some d → d ∉ oj.looksAt ops) ∧
      (∀ (i : Nat) (oi : Oper) (d : Tmp), ops[i]? = some oi → i ≠ j → oi.dst = some d → oj.dst ≠ some d ∧ (d ∈ oj.looksAt ops → ∃ e ∈ oj.after, Region.binds .any e = true ∧ e.on = i)) := by
    intro j oj hj
    have hlt : j < ops.size := (Array.getElem?_eq_some_iff.1 hj).1
    have h1 := List.all_eq_true.1 h j (List.mem_range.2 hlt)
    simp only [hj, Bool.and_eq_true] at h1
    obtain ⟨⟨⟨⟨hg, hsel⟩, hle⟩, hself⟩, hall⟩ := h1
    refine ⟨hg, fun cs b e => by simp [e] at hsel, fun e he hb => ?_, fun d hd hm => ?_, fun i oi d hi hne hd => ?_⟩
    · have := Array.all_eq_true_iff_forall_mem.1 hle e he
      simp [hb] at this; exact this
    · rw [hd] at hself
      simp at hself; exact hself hm
    · have hil : i < ops.size := (Array.getElem?_eq_some_iff.1 hi).1
      have h2 := List.all_eq_true.1 hall i (List.mem_range.2 hil)
      simp only [hi, hd, Bool.or_eq_true, Bool.and_eq_true, beq_iff_eq] at h2
      rcases h2 with h2 | ⟨h2, h3⟩
      · exact absurd h2 hne
      · refine ⟨by simpa using h2, fun hm => ?_⟩
        rcases h3 with h3 | h3
        · simp at h3; exact absurd hm h3
        · obtain ⟨e, he, hb⟩ := Array.any_eq_true'.1 h3
          simp only [Bool.and_eq_true, beq_iff_eq] at hb
          exact ⟨e, he, hb.1, hb.2⟩
  exact ⟨fun j oj hj => by have := (key j oj hj).1; simpa using this, fun j oj hj => (key j oj hj).2.1, fun j oj hj => (key j oj hj).2.2.1, fun j oj d hj hd => (key j oj hj).2.2.2.1 d hd,
    fun j oj i oi d hj hi hne hd => ((key j oj hj).2.2.2.2 i oi d hi hne hd).1, fun j oj i oi d hj hi hne hd hm => ((key j oj hj).2.2.2.2 i oi d hi hne hd).2 hm⟩

structure DetInv (ops : Array Oper) (a0 aF : Act) (w0 w1 : World) (s : Nat) (listed : Array Bool) (a : Act) (w : World) : Prop where
  size : listed.size = ops.size
  defers : a.defers = a0.defers
  tmps : a.tmps.size = aF.tmps.size
  done : ∀ (j : Nat) (oj : Oper) (d : Tmp), ops[j]? = some oj → oj.dst = some d → listed.getD j false = true → a.tmps[d]? = aF.tmps[d]?
  rest : ∀ (k : Nat), (∀ (j : Nat) (oj : Oper), ops[j]? = some oj → oj.dst = some k → listed.getD j false = false) → a.tmps[k]? = a0.tmps[k]?
  world : (listed.getD s false = false ∧ w = w0) ∨ (listed.getD s false = true ∧ w = w1)

def unl (ops : Array Oper) (listed : Array Bool) : List Nat := (List.range ops.size).filter fun i => !listed.getD i true
theorem getD_two {listed : Array Bool} {i : Nat} (hi : i < listed.size) : listed.getD i true = listed.getD i false := by simp [hi]
theorem unl_set {listed : Array Bool} {i : Nat} (hi : i < ops.size) (hs : listed.size = ops.size) (hun : listed.getD i true = false) : (unl ops (listed.setIfInBounds i true)).length < (unl ops listed).length := by
  have e : unl ops (listed.setIfInBounds i true) = (unl ops listed).filter (fun k => k != i) := by
    unfold unl
    rw [List.filter_filter]
    apply List.filter_congr
    intro k hk
    by_cases hki : k = i
    · subst hki; simp [hs, hi]
    · rw [getD_set_ne true (Ne.symm hki)]; simp [hki]
  rw [e]
  apply List.length_filter_lt_length_iff_exists.2
  exact ⟨i, by unfold unl; simp only [List.mem_filter, List.mem_range]; exact ⟨hi, by rw [hun]; rfl⟩, by simp⟩

theorem wpAny_det {Q : Exit → Act → World → Prop} {a0 aF : Act} {w0 w1 : World} {s : Nat} (D : Region.Det ops) (hsz : aF.tmps.size = a0.tmps.size) (hdf : aF.defers = a0.defers)
    (hF : ∀ (k : Nat), (∀ (j : Nat) (oj : Oper), ops[j]? = some oj → oj.dst ≠ some k) → aF.tmps[k]? = a0.tmps[k]?)
    (hrun : ∀ (j : Nat) (oj : Oper), ops[j]? = some oj → j ≠ s → ∀ w, (w = w0 ∨ w = w1) → ∃ v, (execOp aF.eval oj).run P w = .ok (.value v) w ∧ ∀ d, oj.dst = some d → aF.tmps[d]? = some v)
    (hst : ∃ os, ops[s]? = some os ∧ os.dst = none ∧ (execOp aF.eval os).run P w0 = .ok .skip w1)
    (h : Q .normal aF w1) : ∀ (fuel : Nat) (listed : Array Bool) (a : Act) (w : World), DetInv ops a0 aF w0 w1 s listed a w → (unl ops listed).length ≤ fuel → wpAny P .any ops Q fuel listed a w := by
  have hfin : ∀ (listed : Array Bool) (a : Act) (w : World), DetInv ops a0 aF w0 w1 s listed a w → Region.ready .any ops listed = [] → Q .normal a w := by
    intro listed a w I hr
    have hall : ∀ j, j < ops.size → listed.getD j false = true := by
      intro j
      induction j using Nat.strongRecOn with
      | _ j ih =>
        intro hj
        rw [← getD_two (by rw [I.size]; exact hj)]
        cases hun : listed.getD j true with
        | true => rfl
        | false =>
          have hm : j ∈ Region.ready .any ops listed := mem_ready.2 ⟨hun, ops[j], Array.getElem?_eq_getElem hj, fun e he hb => by
            have hl := D.less j ops[j] (Array.getElem?_eq_getElem hj) e he hb
            exact ih e.on hl (by omega)⟩
          rw [hr] at hm; cases hm
    obtain ⟨os, hos, _⟩ := hst
    have hsl : s < ops.size := (Array.getElem?_eq_some_iff.1 hos).1
    have hw : w = w1 := by
      rcases I.world with ⟨h1, _⟩ | ⟨_, h2⟩
      · rw [hall s hsl] at h1; cases h1
      · exact h2
    have ha : a = aF := by
      have ht : a.tmps = aF.tmps := by
        apply Array.ext_getElem?
        intro k
        by_cases hw : ∃ (j : Nat) (oj : Oper), ops[j]? = some oj ∧ oj.dst = some k
        · obtain ⟨j, oj, hj, hd⟩ := hw
          exact I.done j oj k hj hd (hall j (Array.getElem?_eq_some_iff.1 hj).1)
        · rw [I.rest k (fun j oj hj hd => absurd ⟨j, oj, hj, hd⟩ hw), hF k (fun j oj hj hd => hw ⟨j, oj, hj, hd⟩)]
      have hd := I.defers.trans hdf.symm
      cases a; cases aF; simp_all
    rw [ha, hw]; exact h
  intro fuel
  induction fuel with
  | zero =>
    intro listed a w I hc
    have hr : Region.ready .any ops listed = [] := by
      cases hq : Region.ready .any ops listed with
      | nil => rfl
      | cons j r =>
        have hm : j ∈ Region.ready .any ops listed := by rw [hq]; exact List.mem_cons_self ..
        obtain ⟨hun, oj, hoj, _⟩ := mem_ready.1 hm
        have : j ∈ unl ops listed := by unfold unl; simp only [List.mem_filter, List.mem_range]; exact ⟨(Array.getElem?_eq_some_iff.1 hoj).1, by rw [hun]; rfl⟩
        rw [List.eq_nil_of_length_eq_zero (by omega : (unl ops listed).length = 0)] at this
        cases this
    exact ⟨hr, hfin listed a w I hr⟩
  | succ fuel ih =>
    intro listed a w I hc
    refine ⟨hfin listed a w I, fun j hj => ?_⟩
    obtain ⟨hun, oj, hoj, hdeps⟩ := mem_ready.1 hj
    have hjl : j < ops.size := (Array.getElem?_eq_some_iff.1 hoj).1
    have hev : execOp a.eval oj = execOp aF.eval oj := by
      apply execOp_congr oj (D.sel j oj hoj)
      intro x hx
      cases x with
      | tmp t =>
        have hlook : t ∈ oj.looksAt ops := List.mem_append_left _ (List.mem_filterMap.2 ⟨.tmp t, by simpa using hx, rfl⟩)
        have heq : a.tmps[t]? = aF.tmps[t]? := by
          by_cases hw : ∃ (i : Nat) (oi : Oper), ops[i]? = some oi ∧ oi.dst = some t
          · obtain ⟨i, oi, hi, hd⟩ := hw
            have hne : i ≠ j := by
              intro e; subst e
              rw [hoj] at hi; injection hi with hi; subst hi
              exact D.self i oj t hoj hd hlook
            obtain ⟨e, he, hb, hon⟩ := D.data j oj i oi t hoj hi hne hd hlook
            have := hdeps e he hb
            rw [hon] at this
            exact I.done i oi t hi hd this
          · rw [I.rest t (fun i oi hi hd => absurd ⟨i, oi, hi, hd⟩ hw), hF t (fun i oi hi hd => hw ⟨i, oi, hi, hd⟩)]
        simp only [Act.eval, Array.getD_eq_getD_getElem?, heq]
      | const v => rfl
      | global g => rfl
      | func f => rfl
    have hwant : Region.wanted oj (yielded ops a.tmps) = true := by simp [Region.wanted, D.guard j oj hoj]
    have hunF : listed.getD j false = false := by rw [← getD_two (by rw [I.size]; exact hjl)]; exact hun
    have hcnt := unl_set (ops := ops) hjl I.size hun
    unfold wpOp
    simp only [hoj, hwant, if_true]
    refine .inl ?_
    unfold Oper.wp
    rw [hev]
    by_cases hjs : j = s
    · subst hjs
      obtain ⟨os, hos, hdst, hr⟩ := hst
      rw [hoj] at hos; injection hos with hos; subst hos
      have hw0 : w = w0 := by
        rcases I.world with ⟨_, h2⟩ | ⟨h1, _⟩
        · exact h2
        · rw [hunF] at h1; cases h1
      rw [hw0, hr]
      simp only [Oper.upon, hdst, Act.put]
      refine ih _ _ _ ⟨by simp [I.size], I.defers, I.tmps, fun i oi d hi hd hl => ?_, fun k hk => I.rest k (fun i oi hi hd => ?_), .inr ⟨by simp [I.size, hjl], rfl⟩⟩ (by omega)
      · by_cases e : j = i
        · subst e; rw [hoj] at hi; injection hi with hi; subst hi; rw [hdst] at hd; cases hd
        · rw [getD_set_ne false e] at hl; exact I.done i oi d hi hd hl
      · by_cases e : j = i
        · subst e; exact hunF
        · have := hk i oi hi hd; rw [getD_set_ne false e] at this; exact this
    · have hwor : w = w0 ∨ w = w1 := by
        rcases I.world with h | h
        · exact .inl h.2
        · exact .inr h.2
      obtain ⟨v, hr, hv⟩ := hrun j oj hoj hjs w hwor
      rw [hr]
      simp only [Oper.upon]
      have hput : ∀ d, oj.dst = some d → (a.put oj.dst v).tmps = a.tmps.setIfInBounds d v := fun d hd => by rw [hd]; rfl
      have hputN : oj.dst = none → (a.put oj.dst v) = a := fun hd => by rw [hd]; rfl
      refine ih _ _ _ ⟨by simp [I.size], ?_, ?_, fun i oi d hi hd hl => ?_, fun k hk => ?_, ?_⟩ (by omega)
      · cases hd : oj.dst <;> exact I.defers
      · cases hd : oj.dst with
        | none => exact I.tmps
        | some d => simp only [Act.put, Array.size_setIfInBounds]; exact I.tmps
      · by_cases e : j = i
        · subst e; rw [hoj] at hi; injection hi with hi; subst hi
          rw [hput d hd, hv d hd]
          have hb : d < a.tmps.size := by rw [I.tmps]; exact (Array.getElem?_eq_some_iff.1 (hv d hd)).1
          simp [hb]
        · rw [getD_set_ne false e] at hl
          have h0 := I.done i oi d hi hd hl
          cases hdj : oj.dst with
          | none => exact h0
          | some d' =>
            have hne : d' ≠ d := fun e' => D.dst j oj i oi d hoj hi (Ne.symm e) hd (e' ▸ hdj)
            simp only [Act.put, Array.getElem?_setIfInBounds_ne hne]; exact h0
      · have h0 := I.rest k (fun i oi hi hd => by
          by_cases e : j = i
          · subst e; exact hunF
          · have := hk i oi hi hd; rw [getD_set_ne false e] at this; exact this)
        cases hdj : oj.dst with
        | none => exact h0
        | some d' =>
          have hne : d' ≠ k := fun e' => by
            have := hk j oj hoj (e' ▸ hdj)
            simp [I.size, hjl] at this
          simp only [Act.put, Array.getElem?_setIfInBounds_ne hne]; exact h0
      · rw [getD_set_ne false hjs]; exact I.world

theorem replicate_false (m j : Nat) : (Array.replicate m false).getD j false = false := by
  rcases Nat.lt_or_ge j m with h | h
  · simp [h]
  · simp [h]

/-- THE LAW: a region of operations that each yield a value known beforehand, whether one store has been done or not. -/
theorem wp_region_det {id : Nat} {Q : Exit → Act → World → Prop} {a0 : Act} {w : World} {l : List Oper} (aF : Act) (w0 w1 : World) (s : Nat) (hw0 : { w with drawn := w.drawn + 1 } = w0)
    (hm : P.follows .mixedOrders = true) (hB : Region.detB l.toArray = true) (hsz : aF.tmps.size = a0.tmps.size) (hdf : aF.defers = a0.defers)
    (hF : ∀ (k : Nat), (∀ (j : Nat) (oj : Oper), l.toArray[j]? = some oj → oj.dst ≠ some k) → aF.tmps[k]? = a0.tmps[k]?)
    (hrun : ∀ (j : Nat) (oj : Oper), l.toArray[j]? = some oj → j ≠ s → ∀ w, (w = w0 ∨ w = w1) → ∃ v, (execOp aF.eval oj).run P w = .ok (.value v) w ∧ ∀ d, oj.dst = some d → aF.tmps[d]? = some v)
    (hst : ∃ os, l.toArray[s]? = some os ∧ os.dst = none ∧ (execOp aF.eval os).run P w0 = .ok .skip w1)
    (h : Q .normal aF w1) : (Code.region id l.toArray true).wp P Q a0 w := by
  refine wp_region_any hm ?_
  rw [hw0]
  refine wpAny_det (Region.det_of hB) hsz hdf hF hrun hst h _ _ _ _ ⟨by simp, rfl, hsz.symm, (fun j oj d hj hd hl => by rw [replicate_false] at hl; cases hl), fun k _ => rfl, .inl ⟨replicate_false _ _, rfl⟩⟩ ?_
  unfold unl
  exact Nat.le_trans (List.length_filter_le _ _) (by simp)
end
end Go
