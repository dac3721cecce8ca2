/-
  Seat b6605338a. The plain mathematics of the status report: no Go in sight. 'sm': the law's model; 'as': the project's merge; they agree.
-/
namespace Go.Proofs.Qxb6605338a
set_option linter.unusedVariables false

/-- All of the first k. -/
def allB (f : Nat → Bool) : Nat → Bool
  | 0 => true
  | k + 1 => allB f k && f k
theorem allB_succ (f : Nat → Bool) (k : Nat) : allB f (k + 1) = (allB f k && f k) := rfl
theorem allB_iff {f : Nat → Bool} {n : Nat} : allB f n = true ↔ ∀ i, i < n → f i = true := by
  induction n with
  | zero => simp [allB]
  | succ n ih =>
    rw [allB_succ, Bool.and_eq_true, ih]
    constructor
    · rintro ⟨h1, h2⟩ i hi
      by_cases e : i = n
      · subst e; exact h2
      · exact h1 i (by omega)
    · intro h
      exact ⟨fun i hi => h i (by omega), h n (by omega)⟩
theorem allB_false {f : Nat → Bool} {k n : Nat} (hk : k < n) (h : f k = false) : allB f n = false := by
  cases e : allB f n with
  | false => rfl
  | true => rw [allB_iff] at e; rw [e k hk] at h; exact h

/-! ### A heard entry -/
/-- The law's test of receipt i. -/
def hmOk (n agent sent : Int) (PA PS : Nat → Int) (i : Nat) : Bool := decide (0 ≤ PA i ∧ PA i < n ∧ PA i ≠ agent ∧ (i = 0 ∨ PA (i - 1) < PA i) ∧ (sent ≤ 2 ∨ PS i = 0))
/-- The receipt before, as the project keeps it. -/
def lastP (PA : Nat → Int) (i : Nat) : Int := if i = 0 then -1 else PA (i - 1)
/-- The project's test of receipt i. -/
def ahOk (n agent sent : Int) (PA PS : Nat → Int) (i : Nat) : Bool := decide (lastP PA i < PA i ∧ PA i < n ∧ PA i ≠ agent ∧ (sent ≤ 2 ∨ PS i = 0))
theorem ah_hm (n agent sent : Int) (PA PS : Nat → Int) (k : Nat) : allB (ahOk n agent sent PA PS) k = allB (hmOk n agent sent PA PS) k := by
  induction k with
  | zero => rfl
  | succ k ih =>
    rw [allB_succ, allB_succ, ih]
    cases e : allB (hmOk n agent sent PA PS) k with
    | false => rfl
    | true =>
      rw [Bool.true_and, Bool.true_and]
      rw [allB_iff] at e
      unfold ahOk hmOk lastP
      rw [decide_eq_decide]
      by_cases h0 : k = 0
      · subst h0
        simp only [if_true, true_or, true_and]
        constructor <;> intro h <;> omega
      · have := e (k - 1) (by omega)
        simp only [hmOk, decide_eq_true_eq] at this
        simp only [h0, if_false, false_or]
        constructor <;> intro h <;> omega
/-- One heard entry allowed. -/
def hm (n sent agent stamp : Int) (pnil : Bool) (pn : Nat) (PA PS : Nat → Int) : Bool :=
  if sent = 1 then pnil else if stamp ≠ 0 then false else allB (hmOk n agent sent PA PS) pn

/-! ### The status report -/
def smS (n id frm round : Int) (SA SR SP : Nat → Int) (i : Nat) : Bool :=
  decide (0 ≤ SA i ∧ SA i < n ∧ SA i ≠ frm ∧ (i = 0 ∨ SA (i - 1) < SA i) ∧ SA i ≠ id ∧ 1 ≤ SR i ∧ SR i < round ∧ 0 ≤ SP i ∧ SP i < n ∧ SP i ≠ SA i)
def smH (n frm : Int) (sn : Nat) (SA HA : Nat → Int) (hmi : Nat → Bool) (i : Nat) : Bool :=
  decide (0 ≤ HA i ∧ HA i < n ∧ HA i ≠ frm ∧ (∀ j, j < sn → SA j ≠ HA i) ∧ (i = 0 ∨ HA (i - 1) < HA i)) && hmi i
def othersN (n frm : Int) : Int := if n ≤ 0 then 0 else if 0 ≤ frm ∧ frm < n then n - 1 else n
/-- The law's model. -/
def sm (n id frm round : Int) (sn hn : Nat) (SA SR SP HA : Nat → Int) (hmi : Nat → Bool) : Bool :=
  decide ((sn : Int) + hn = othersN n frm) && (allB (smS n id frm round SA SR SP) sn && allB (smH n frm sn SA HA hmi) hn)

/-- The project's merge: one step. -/
def mstep (frm : Int) (sn hn : Nat) (SA HA : Nat → Int) (j : Nat) (s : Option (Nat × Nat)) : Option (Nat × Nat) :=
  match s with
  | none => none
  | some (c, h) => if (j : Int) = frm then some (c, h) else if c < sn ∧ SA c = j then some (c + 1, h) else if h < hn ∧ HA h = j then some (c, h + 1) else none
def mrun (frm : Int) (sn hn : Nat) (SA HA : Nat → Int) : Nat → Option (Nat × Nat)
  | 0 => some (0, 0)
  | j + 1 => mstep frm sn hn SA HA j (mrun frm sn hn SA HA j)
theorem mrun_succ (frm : Int) (sn hn : Nat) (SA HA : Nat → Int) (j : Nat) : mrun frm sn hn SA HA (j + 1) = mstep frm sn hn SA HA j (mrun frm sn hn SA HA j) := rfl
theorem mrun_none {frm : Int} {sn hn : Nat} {SA HA : Nat → Int} {j N : Nat} (hj : j ≤ N) (h : mrun frm sn hn SA HA j = none) : mrun frm sn hn SA HA N = none := by
  induction N with
  | zero => have : j = 0 := by omega
            subst this; exact h
  | succ N ih =>
    by_cases e : j = N + 1
    · subst e; exact h
    · rw [mrun_succ, ih (by omega)]; rfl
def asS (n id round : Int) (SA SR SP : Nat → Int) (i : Nat) : Bool := decide (SA i ≠ id ∧ 1 ≤ SR i ∧ SR i < round ∧ 0 ≤ SP i ∧ SP i < n ∧ SP i ≠ SA i)
/-- The project's answer. -/
def as' (n id frm round : Int) (sn hn : Nat) (SA SR SP HA : Nat → Int) (hmi : Nat → Bool) : Bool :=
  decide (mrun frm sn hn SA HA n.toNat = some (sn, hn)) && (allB (asS n id round SA SR SP) sn && allB hmi hn)

/-- How many of 0 .. j-1 are not frm. -/
def cnt (frm : Int) : Nat → Nat
  | 0 => 0
  | j + 1 => cnt frm j + if (j : Int) = frm then 0 else 1
theorem cnt_le (frm : Int) {j k : Nat} (h : j ≤ k) : cnt frm j ≤ cnt frm k := by
  induction k with
  | zero => have : j = 0 := by omega
            subst this; exact Nat.le_refl _
  | succ k ih =>
    by_cases e : j = k + 1
    · subst e; exact Nat.le_refl _
    · have := ih (by omega)
      have hc : cnt frm (k + 1) = cnt frm k + if (k : Int) = frm then 0 else 1 := rfl
      omega
theorem cnt_eq (frm : Int) (N : Nat) : (cnt frm N : Int) = if 0 ≤ frm ∧ frm < N then (N : Int) - 1 else N := by
  induction N with
  | zero => simp [cnt]
  | succ N ih =>
    unfold cnt
    by_cases h1 : (N : Int) = frm
    · rw [if_pos h1]
      rw [if_neg (by omega)] at ih
      rw [if_pos (by omega)]
      omega
    · rw [if_neg h1]
      by_cases h2 : 0 ≤ frm ∧ frm < N
      · rw [if_pos h2] at ih
        rw [if_pos (by omega)]
        omega
      · rw [if_neg h2] at ih
        rw [if_neg (by omega)]
        omega

/-- The two rows: rising, in range, without frm, without a common agent. -/
structure Good (n frm : Int) (sn hn : Nat) (SA HA : Nat → Int) : Prop where
  s1 : ∀ i, i < sn → 0 ≤ SA i ∧ SA i < n ∧ SA i ≠ frm
  s2 : ∀ i, i < sn → i = 0 ∨ SA (i - 1) < SA i
  h1 : ∀ i, i < hn → 0 ≤ HA i ∧ HA i < n ∧ HA i ≠ frm
  h2 : ∀ i, i < hn → i = 0 ∨ HA (i - 1) < HA i
  d : ∀ i, i < hn → ∀ j, j < sn → SA j ≠ HA i

theorem rise {A : Nat → Int} {n : Nat} (h : ∀ i, i < n → i = 0 ∨ A (i - 1) < A i) : ∀ {i j : Nat}, i < j → j < n → A i < A j := by
  intro i j hij hj
  induction j with
  | zero => omega
  | succ j ih =>
    have := h (j + 1) hj
    rcases this with h0 | h0
    · omega
    · rw [Nat.add_sub_cancel] at h0
      by_cases e : i = j
      · subst e; exact h0
      · have := ih (by omega) (by omega); omega

/-- What is left of the two rows fits into what is left of the agents. -/
theorem count {n frm : Int} {sn hn N : Nat} {SA HA : Nat → Int} (g : Good n frm sn hn SA HA) (hN : n ≤ N) : ∀ (k a c h : Nat), a + k = N → c ≤ sn → h ≤ hn → (∀ i, c ≤ i → i < sn → (a : Int) ≤ SA i) → (∀ i, h ≤ i → i < hn → (a : Int) ≤ HA i) → (sn - c) + (hn - h) + cnt frm a ≤ cnt frm N := by
  intro k
  induction k with
  | zero =>
    intro a c h ha hc hh h1 h2
    have e1 : c = sn := by
      rcases Nat.lt_or_ge c sn with h' | h'
      · have := h1 c (Nat.le_refl _) h'; have := (g.s1 c h').2.1; omega
      · omega
    have e2 : h = hn := by
      rcases Nat.lt_or_ge h hn with h' | h'
      · have := h2 h (Nat.le_refl _) h'; have := (g.h1 h h').2.1; omega
      · omega
    have : a = N := by omega
    subst e1 e2 this
    omega
  | succ k ih =>
    intro a c h ha hc hh h1 h2
    have hcnt : cnt frm (a + 1) = cnt frm a + if (a : Int) = frm then 0 else 1 := rfl
    by_cases e : (a : Int) = frm
    · rw [if_pos e] at hcnt
      have := ih (a + 1) c h (by omega) hc hh (fun i hi hi' => by have := h1 i hi hi'; have := (g.s1 i hi').2.2; omega) (fun i hi hi' => by have := h2 i hi hi'; have := (g.h1 i hi').2.2; omega)
      omega
    · rw [if_neg e] at hcnt
      by_cases e1 : c < sn ∧ SA c = a
      · have := ih (a + 1) (c + 1) h (by omega) (by omega) hh (fun i hi hi' => by have := rise g.s2 (show c < i by omega) hi'; omega) (fun i hi hi' => by have := h2 i hi hi'; have := g.d i hi' c e1.1; omega)
        omega
      · by_cases e2 : h < hn ∧ HA h = a
        · have := ih (a + 1) c (h + 1) (by omega) hc (by omega) (fun i hi hi' => by have := h1 i hi hi'; have := g.d h e2.1 i hi'; omega) (fun i hi hi' => by have := rise g.h2 (show h < i by omega) hi'; omega)
          omega
        · have := ih (a + 1) c h (by omega) hc hh
            (fun i hi hi' => by
              have := h1 i hi hi'
              by_cases q : i = c
              · subst q; have : SA i ≠ a := fun q' => e1 ⟨hi', q'⟩; omega
              · have := rise g.s2 (show c < i by omega) hi'; have := h1 c (Nat.le_refl _) (by omega); omega)
            (fun i hi hi' => by
              have := h2 i hi hi'
              by_cases q : i = h
              · subst q; have : HA i ≠ a := fun q' => e2 ⟨hi', q'⟩; omega
              · have := rise g.h2 (show h < i by omega) hi'; have := h2 h (Nat.le_refl _) (by omega); omega)
          omega

/-- Good rows of the right number: the merge comes through. -/
theorem merge_ok {n frm : Int} {sn hn N : Nat} {SA HA : Nat → Int} (g : Good n frm sn hn SA HA) (hN : n = N) (htot : sn + hn = cnt frm N) : ∀ j, j ≤ N → ∃ c h, mrun frm sn hn SA HA j = some (c, h) ∧ c ≤ sn ∧ h ≤ hn ∧ (∀ i, c ≤ i → i < sn → (j : Int) ≤ SA i) ∧ (∀ i, h ≤ i → i < hn → (j : Int) ≤ HA i) ∧ (sn - c) + (hn - h) + cnt frm j = cnt frm N := by
  intro j
  induction j with
  | zero => intro _; exact ⟨0, 0, rfl, by omega, by omega, fun i _ hi => by have := (g.s1 i hi).1; omega, fun i _ hi => by have := (g.h1 i hi).1; omega, by simp [cnt]; omega⟩
  | succ j ih =>
    intro hj
    obtain ⟨c, h, hr, hc, hh, i1, i2, ht⟩ := ih (by omega)
    have hcnt : cnt frm (j + 1) = cnt frm j + if (j : Int) = frm then 0 else 1 := rfl
    rw [mrun_succ, hr]
    unfold mstep
    by_cases e : (j : Int) = frm
    · simp only [if_pos e] at hcnt ⊢
      exact ⟨c, h, rfl, hc, hh, fun i hi hi' => by have := i1 i hi hi'; have := (g.s1 i hi').2.2; omega, fun i hi hi' => by have := i2 i hi hi'; have := (g.h1 i hi').2.2; omega, by omega⟩
    · simp only [if_neg e] at hcnt ⊢
      by_cases e1 : c < sn ∧ SA c = j
      · rw [if_pos e1]
        exact ⟨c + 1, h, rfl, by omega, hh, fun i hi hi' => by have := rise g.s2 (show c < i by omega) hi'; omega, fun i hi hi' => by have := i2 i hi hi'; have := g.d i hi' c e1.1; omega, by omega⟩
      · rw [if_neg e1]
        by_cases e2 : h < hn ∧ HA h = j
        · rw [if_pos e2]
          exact ⟨c, h + 1, rfl, hc, by omega, fun i hi hi' => by have := i1 i hi hi'; have := g.d h e2.1 i hi'; omega, fun i hi hi' => by have := rise g.h2 (show h < i by omega) hi'; omega, by omega⟩
        · exfalso
          have := count (N := N) g (by omega) (N - (j + 1)) (j + 1) c h (by omega) hc hh
            (fun i hi hi' => by
              have := i1 i hi hi'
              by_cases q : i = c
              · subst q; have : SA i ≠ j := fun q' => e1 ⟨hi', q'⟩; omega
              · have := rise g.s2 (show c < i by omega) hi'; have := i1 c (Nat.le_refl _) (by omega); omega)
            (fun i hi hi' => by
              have := i2 i hi hi'
              by_cases q : i = h
              · subst q; have : HA i ≠ j := fun q' => e2 ⟨hi', q'⟩; omega
              · have := rise g.h2 (show h < i by omega) hi'; have := i2 h (Nat.le_refl _) (by omega); omega)
          omega

/-- A merge that came so far has seen good rows. -/
theorem merge_good {frm : Int} {sn hn : Nat} {SA HA : Nat → Int} : ∀ (j c h : Nat), mrun frm sn hn SA HA j = some (c, h) → Good j frm c h SA HA ∧ c + h = cnt frm j := by
  intro j
  induction j with
  | zero =>
    intro c h hr
    simp [mrun] at hr
    obtain ⟨rfl, rfl⟩ := hr
    exact ⟨⟨fun i hi => by omega, fun i hi => by omega, fun i hi => by omega, fun i hi => by omega, fun i hi => by omega⟩, rfl⟩
  | succ j ih =>
    intro c h hr
    have hcnt : cnt frm (j + 1) = cnt frm j + if (j : Int) = frm then 0 else 1 := rfl
    rw [mrun_succ] at hr
    cases hp : mrun frm sn hn SA HA j with
    | none => rw [hp] at hr; simp [mstep] at hr
    | some p =>
      obtain ⟨c0, h0⟩ := p
      obtain ⟨g, ht⟩ := ih c0 h0 hp
      rw [hp] at hr
      unfold mstep at hr
      by_cases e : (j : Int) = frm
      · simp only [if_pos e, Option.some.injEq, Prod.mk.injEq] at hr hcnt
        obtain ⟨rfl, rfl⟩ := hr
        exact ⟨⟨fun i hi => by have := g.s1 i hi; omega, g.s2, fun i hi => by have := g.h1 i hi; omega, g.h2, g.d⟩, by omega⟩
      · simp only [if_neg e] at hr hcnt
        by_cases e1 : c0 < sn ∧ SA c0 = j
        · rw [if_pos e1] at hr
          simp only [Option.some.injEq, Prod.mk.injEq] at hr
          obtain ⟨rfl, rfl⟩ := hr
          refine ⟨⟨fun i hi => ?_, fun i hi => ?_, fun i hi => by have := g.h1 i hi; omega, g.h2, fun i hi i' hi' => ?_⟩, by omega⟩
          · by_cases q : i = c0
            · subst q; omega
            · have := g.s1 i (by omega); omega
          · by_cases q : i = c0
            · subst q
              by_cases q0 : i = 0
              · exact .inl q0
              · have := g.s1 (i - 1) (by omega); exact .inr (by omega)
            · exact g.s2 i (by omega)
          · by_cases q : i' = c0
            · subst q; have := g.h1 i hi; omega
            · exact g.d i hi i' (by omega)
        · rw [if_neg e1] at hr
          by_cases e2 : h0 < hn ∧ HA h0 = j
          · rw [if_pos e2] at hr
            simp only [Option.some.injEq, Prod.mk.injEq] at hr
            obtain ⟨rfl, rfl⟩ := hr
            refine ⟨⟨fun i hi => by have := g.s1 i hi; omega, g.s2, fun i hi => ?_, fun i hi => ?_, fun i hi i' hi' => ?_⟩, by omega⟩
            · by_cases q : i = h0
              · subst q; omega
              · have := g.h1 i (by omega); omega
            · by_cases q : i = h0
              · subst q
                by_cases q0 : i = 0
                · exact .inl q0
                · have := g.h1 (i - 1) (by omega); exact .inr (by omega)
              · exact g.h2 i (by omega)
            · by_cases q : i = h0
              · subst q; have := g.s1 i' hi'; omega
              · exact g.d i (by omega) i' hi'
          · rw [if_neg e2] at hr
            cases hr

/-- THE PLAIN LAW: the model and the merge agree. -/
theorem sm_as (n id frm round : Int) (sn hn : Nat) (SA SR SP HA : Nat → Int) (hmi : Nat → Bool) : sm n id frm round sn hn SA SR SP HA hmi = as' n id frm round sn hn SA SR SP HA hmi := by
  have ho : othersN n frm = (cnt frm n.toNat : Int) := by
    unfold othersN
    rw [cnt_eq]
    by_cases h : n ≤ 0
    · have : n.toNat = 0 := by omega
      rw [if_pos h, this, if_neg (by omega)]; rfl
    · have : (n.toNat : Int) = n := by omega
      rw [if_neg h, this]
  rw [Bool.eq_iff_iff]
  unfold sm as'
  simp only [Bool.and_eq_true, decide_eq_true_eq, allB_iff, ho]
  constructor
  · rintro ⟨ht, hS, hH⟩
    have hS' : ∀ i, i < sn → 0 ≤ SA i ∧ SA i < n ∧ SA i ≠ frm ∧ (i = 0 ∨ SA (i - 1) < SA i) ∧ SA i ≠ id ∧ 1 ≤ SR i ∧ SR i < round ∧ 0 ≤ SP i ∧ SP i < n ∧ SP i ≠ SA i := fun i hi => by have := hS i hi; simpa [smS] using this
    have hH' : ∀ i, i < hn → (0 ≤ HA i ∧ HA i < n ∧ HA i ≠ frm ∧ (∀ j, j < sn → SA j ≠ HA i) ∧ (i = 0 ∨ HA (i - 1) < HA i)) ∧ hmi i = true := fun i hi => by have := hH i hi; simpa [smH, Bool.and_eq_true] using this
    refine ⟨?_, fun i hi => ?_, fun i hi => (hH' i hi).2⟩
    · by_cases h0 : n ≤ 0
      · have e : n.toNat = 0 := by omega
        rw [e] at ht ⊢
        simp [cnt] at ht
        have e1 : sn = 0 := by omega
        have e2 : hn = 0 := by omega
        subst e1 e2
        rfl
      · have hN : n = (n.toNat : Int) := by omega
        have g : Good n frm sn hn SA HA := ⟨fun i hi => by have := hS' i hi; omega, fun i hi => by have := hS' i hi; omega, fun i hi => by have := (hH' i hi).1; omega, fun i hi => (hH' i hi).1.2.2.2.2, fun i hi => (hH' i hi).1.2.2.2.1⟩
        obtain ⟨c, h, hr, hc, hh, _, _, hq⟩ := merge_ok g hN (by omega) n.toNat (Nat.le_refl _)
        rw [hr]
        have : c = sn := by omega
        have : h = hn := by omega
        simp [*]
    · have := hS' i hi
      simp only [asS, decide_eq_true_eq]
      omega
  · rintro ⟨hr, hS, hH⟩
    obtain ⟨g, ht⟩ := merge_good _ _ _ hr
    refine ⟨by omega, fun i hi => ?_, fun i hi => ?_⟩
    · have h1 := hS i hi
      simp only [asS, decide_eq_true_eq] at h1
      have h2 := g.s1 i hi
      have h3 := g.s2 i hi
      simp only [smS, decide_eq_true_eq]
      omega
    · have h2 := g.h1 i hi
      have h3 := g.h2 i hi
      have h4 := g.d i hi
      have h5 := hH i hi
      simp only [smH, Bool.and_eq_true, decide_eq_true_eq]
      exact ⟨⟨h2.1, by omega, h2.2.2, h4, h3⟩, h5⟩
end Go.Proofs.Qxb6605338a
