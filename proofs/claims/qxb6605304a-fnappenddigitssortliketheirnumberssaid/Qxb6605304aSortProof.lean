/-
  THE PROOF OF 'Rows.FnAppendDigitsSortLikeTheirNumbersSaid': the shell that came with the seat, its hole filled.
-/
import Derived.Test.Qxb6605304aSort
import Derived.Test.Qxb6605304aRows
import Derived.WalkKit
import Derived.ProofKit
import Derived.OpenShut
import Derived.ShutString
namespace Go.Proofs.Qxb6605304a.fnAppendDigitsSortLikeTheirNumbers
open Go.ChangeShapes Go.WideShapes Go.ChangeAt Go.RowKit
open Go.ChangeMaps (open_string shut_string)
set_option linter.unusedVariables false      -- a walk need not use every 'w<i>' (that an integer argument fits its kind)

theorem own : ownKnob Try.prog.godebug = none := by kernel_rfl

/-! ### THE PLAIN LAW: no Go in sight -/
def sgn (a b : Int) : Int := if a < b then -1 else if b < a then 1 else 0

theorem cmpL_snoc (xs ys : List Int) (a b : Int) : xs.length = ys.length → cmpL (xs ++ [a]) (ys ++ [b]) = if cmpL xs ys = 0 then sgn a b else cmpL xs ys := by
  induction xs generalizing ys with
  | nil =>
    intro h
    have : ys = [] := List.eq_nil_of_length_eq_zero (by simpa using h.symm)
    subst this
    simp [cmpL, sgn]
  | cons x xs ih =>
    intro h
    match ys, h with
    | y :: ys, h =>
      simp only [List.cons_append, cmpL]
      by_cases h1 : x < y
      · simp [h1]
      · by_cases h2 : y < x
        · simp [h1, h2]
        · simp only [h1, h2, if_false]
          exact ih ys (by simpa using h)

theorem cmp_dec (k : Nat) : ∀ a b, cmpL (digs k a) (digs k b) = sgn (dec (digs k a)) (dec (digs k b)) := by
  induction k with
  | zero => intro a b; rfl
  | succ k ih =>
    intro a b
    rw [digs, digs, dec_snoc, dec_snoc, cmpL_snoc _ _ _ _ (by rw [digs_len, digs_len]), ih]
    generalize dec (digs k (a / 10)) = x
    generalize dec (digs k (b / 10)) = y
    unfold sgn
    by_cases h1 : x < y
    · simp only [h1, if_true]
      rw [if_neg (by decide), if_pos (by omega)]
    · by_cases h2 : y < x
      · simp only [h1, h2, if_true, if_false]
        rw [if_neg (by decide), if_neg (by omega), if_pos (by omega)]
      · simp only [h1, h2, if_false, if_true]
        have : x = y := by omega
        subst this
        by_cases h3 : 48 + a % 10 < 48 + b % 10
        · rw [if_pos h3, if_pos (by omega)]
        · by_cases h4 : 48 + b % 10 < 48 + a % 10
          · rw [if_neg h3, if_pos h4, if_neg (by omega), if_pos (by omega)]
          · rw [if_neg h3, if_neg h4, if_neg (by omega), if_neg (by omega)]
theorem cmp_digs (k : Nat) (a b : Int) (h1 : 0 ≤ a) (h2 : a < p10 k) (h3 : 0 ≤ b) (h4 : b < p10 k) : cmpL (digs k a) (digs k b) = sgn a b := by
  rw [cmp_dec, dec_digs k a h1 h2, dec_digs k b h3 h4]

theorem cmp_own (v1 v2 : Value) (xs ys : List Int) (base n : Nat) (w : World) (h1 : xs.length = n) (h2 : ys.length = n) (hl : n ≤ 4)
    (o1 : w.ownsRow base 5 1 v1 n (xs.map (.int .u8))) (o2 : w.ownsRow base 5 1 v2 n (ys.map (.int .u8))) :
    Calls Try.prog 11 #[v1, v2] w fun e w' => e = .returned (.int .i64 (cmpL xs ys)) ∧ ∃ q, w.drewN q = w' := by
  by_cases hn : n = 0
  · subst hn
    have e1 : xs = [] := List.eq_nil_of_length_eq_zero h1
    subst e1
    have f : ∀ {v ds}, w.ownsRow base 5 1 v 0 ds → ∃ a c, v = .slice a 0 c := by
      intro v ds o
      rcases o.2 with ⟨rfl, _⟩ | ⟨g, cap, cur, rfl, _⟩
      · exact ⟨_, _, rfl⟩
      · exact ⟨_, _, rfl⟩
    obtain ⟨a, c, rfl⟩ := f o1
    obtain ⟨a', c', rfl⟩ := f o2
    refine (cmp_zero a a' c c' w).mono ?_
    rintro e w' ⟨rfl, rfl⟩
    exact ⟨rfl, 0, rfl⟩
  · have p1 := o1
    have p2 := o2
    rcases o1.2 with ⟨rfl, h⟩ | ⟨g, cap, cur, rfl, _⟩
    · exact absurd h hn
    · rcases o2.2 with ⟨rfl, h⟩ | ⟨g', cap', cur', rfl, _⟩
      · exact absurd h hn
      · subst h1
        refine cmp_some g g' cap cap' _ xs ys w rfl h2 hl (own_cells p1) ?_
        rw [← h2] at p2 ⊢
        exact own_cells p2

/-! ### STEP 1: THE WALK -/
theorem walk (a0 : Int) (a1 : Int) (a2 : Int) (w0 : (Lit.int .i64 a0).wf = true) (w1 : (Lit.int .i64 a1).wf = true) (w2 : (Lit.int .i64 a2).wf = true) (w : World) :
    Calls Try.prog 4 #[.int .i64 a0, .int .i64 a1, .int .i64 a2] w fun e w' => e = .returned (.bool true) ∧ Below w.heap.size w w' := by
  by_cases c1 : a2 < 0
  · go_enter Try.func4, Try.ntmps4
    go_wp2
    go_ret
    exact ⟨rfl, Below.refl _ _⟩
  by_cases c2 : 4 < a2
  · go_enter Try.func4, Try.ntmps4
    go_wp2
    go_ret
    exact ⟨rfl, Below.refl _ _⟩
  obtain ⟨k, rfl⟩ := Int.eq_ofNat_of_zero_le (Int.not_lt.1 c1)
  have hk : k ≤ 4 := by omega
  have hp := p10_le k hk
  by_cases c3 : a0 < 0
  · go_enter Try.func4, Try.ntmps4
    go_wp2_with (go_at_call 7; refine (pow_any k hk _).mono ?_; rintro e w' ⟨rfl, rfl⟩)
    go_ret
    exact ⟨rfl, Below.refl _ _⟩
  by_cases c4 : p10 k ≤ a0
  · go_enter Try.func4, Try.ntmps4
    go_wp2_with (go_at_call 7; refine (pow_any k hk _).mono ?_; rintro e w' ⟨rfl, rfl⟩)
    go_ret
    exact ⟨rfl, Below.refl _ _⟩
  by_cases c5 : a1 < 0
  · go_enter Try.func4, Try.ntmps4
    go_wp2_with (go_at_call 7; refine (pow_any k hk _).mono ?_; rintro e w' ⟨rfl, rfl⟩)
    go_ret
    exact ⟨rfl, Below.refl _ _⟩
  by_cases c6 : p10 k ≤ a1
  · go_enter Try.func4, Try.ntmps4
    go_wp2_with (go_at_call 7; refine (pow_any k hk _).mono ?_; rintro e w' ⟨rfl, rfl⟩)
    go_ret
    exact ⟨rfl, Below.refl _ _⟩
  have d1 : dec (digs k a0) = a0 := dec_digs k a0 (by omega) (by omega)
  have d2 : dec (digs k a1) = a1 := dec_digs k a1 (by omega) (by omega)
  have d3 := cmp_digs k a0 a1 (by omega) (by omega) (by omega) (by omega)
  have D1 : Hid (dec (digs k a0) = a0) := d1
  have D2 : Hid (dec (digs k a1) = a1) := d2
  have D3 : Hid (cmpL (digs k a0) (digs k a1) = sgn a0 a1) := d3
  clear d1 d2 d3
  go_enter Try.func4, Try.ntmps4
  go_wp2_with (first | (go_at_call 7; refine (pow_any k hk _).mono ?_; rintro e w' ⟨rfl, rfl⟩) | fail)
  refine (zzapp_nil a0 k w.heap.size w hk (by omega) (by omega) (Nat.le_refl _)).mono ?_
  rintro e wa ⟨aa, ca, rfl, oa, ga⟩
  go_wp2_with fail
  refine (zzapp_nil a1 k w.heap.size wa hk (by omega) (by omega) ga.size).mono ?_
  rintro e wb ⟨ab, cb, rfl, ob, gb⟩
  have oa' := oa.kept gb (by cases aa <;> simp [Value.ownBlock])
  clear oa
  go_wp2_with fail
  refine (decimal_own _ (digs k a0) w.heap.size wb (digs_digs k a0) (by rw [digs_len]; exact hk) (by rw [digs_len]; exact oa')).mono ?_
  rintro e w1 ⟨rfl, rfl⟩
  rw [D1.out]
  go_wp2_with fail
  refine (decimal_own _ (digs k a1) w.heap.size wb (digs_digs k a1) (by rw [digs_len]; exact hk) (by rw [digs_len]; exact ob)).mono ?_
  rintro e w1 ⟨rfl, rfl⟩
  rw [D2.out]
  have fin : Below w.heap.size w wb := (below_of_grown ga).grown gb ga.size (by simp)
  have hc := cmp_own (.slice aa k ca) (.slice ab k cb) (digs k a0) (digs k a1) w.heap.size k wb (digs_len _ _) (digs_len _ _) hk oa' ob
  have HCC : Hid _ := hc
  clear hc
  clear oa' ob ga gb
  rcases Int.lt_trichotomy a0 a1 with t | t | t
  · have ES : Hid (sgn a0 a1 = -1) := by show _ = _; simp [sgn, t]
    go_wp2_with fail
    refine Calls.mono HCC.out ?_
    rintro e w' ⟨rfl, q, rfl⟩
    rw [D3.out, ES.out]
    go_wp2
    go_ret
    exact ⟨rfl, below_drewN fin q⟩
  · have ES : Hid (sgn a0 a1 = 0) := by show _ = _; simp [sgn, t]
    have t1 : a0 ≤ a1 := by omega
    have t2 : a1 ≤ a0 := by omega
    clear t
    go_wp2_with fail
    refine Calls.mono HCC.out ?_
    rintro e w' ⟨rfl, q, rfl⟩
    rw [D3.out, ES.out]
    go_wp2
    go_ret
    exact ⟨rfl, below_drewN fin q⟩
  · have ES : Hid (sgn a0 a1 = 1) := by show _ = _; simp [sgn, t]; omega
    go_wp2_with fail
    refine Calls.mono HCC.out ?_
    rintro e w' ⟨rfl, q, rfl⟩
    rw [D3.out, ES.out]
    go_wp2
    go_ret
    exact ⟨rfl, below_drewN fin q⟩

/-! ### THE ROW's STEP: WRITTEN OUT: LEAVE IT -/
set_option maxRecDepth 100000 in
theorem lifted (os : Os) (started : os.Started) (H : Type) (enc : TypeId × Value → H) :
    ReturnsInHanded {} Try.checked os 4 .any (Rows.fnAppendDigitsSortLikeTheirNumbersSpec.pre6 enc Try.prog Try.f4 Rows.fnAppendDigitsSortLikeTheirNumbersRow.domain false) (Rows.fnAppendDigitsSortLikeTheirNumbersSpec.post enc Try.prog Try.f4 false true false false) := by
  refine returnsInHanded_of_change (C := Try.checked) own started (by kernel_rfl) Try.func4
    (ChangeSpec.witness6 (enc := enc) (C := Try.checked) false ⟨#[], #[.int .i64 0, .int .i64 0, .int .i64 0], []⟩ 8 (by kernel_rfl) (by kernel_rfl) (by kernel_rfl) (by kernel_rfl)) ?_
  intro W base args ds gs before hval0 hW hcnd _
  have hval : ∀ (j : Nat) t v, Try.f4.params[j]? = some t → args[j]? = some v → Value.okWide Try.prog W .any base t v := hval0
  have hW' := hW
  obtain ⟨p, q, hA0, hV, rfl, hfz, hnd⟩ := hW
  have hA : DataW.TrodAll enc Try.prog W 0 (fun _ => true) true Try.f4.params.toList args.toList ds p := hA0
  rw [Try.params4] at hA hval
  obtain ⟨v0, vs0, d0, ds0, p0, q0, hargs, rfl, rfl, h0, r0⟩ := trodAll_cons hA
  obtain ⟨v1, vs1, d1, ds1, p1, q1, rfl, rfl, rfl, h1, r1⟩ := trodAll_cons r0
  obtain ⟨v2, vs2, d2, ds2, p2, q2, rfl, rfl, rfl, h2, r2⟩ := trodAll_cons r1
  obtain ⟨rfl, rfl, rfl⟩ := trodAll_nil r2
  obtain rfl : args = #[v0, v1, v2] := by cases args; simp_all
  obtain ⟨rfl, rfl⟩ := trodVars_none hV
  obtain ⟨a0, rfl, rfl, rfl, w0⟩ := open_int Try.underlying3 (hval 0 3 v0 rfl rfl) h0
  obtain ⟨a1, rfl, rfl, rfl, w1⟩ := open_int Try.underlying3 (hval 1 3 v1 rfl rfl) h1
  obtain ⟨a2, rfl, rfl, rfl, w2⟩ := open_int Try.underlying3 (hval 2 3 v2 rfl rfl) h2
  clear hA0 hval0
  simp only [List.append_nil] at hW'
  refine (walk a0 a1 a2 w0 w1 w2 W).mono fun e W' ⟨he, hg⟩ => ?_
  subst he
  exact ⟨_, rfl, _, _, _, [], _, [], hW', trodAll_mk1 (shut_bool Try.underlying4 _), (trodAll_cons_mk (shut_int Try.underlying3 w0) (trodAll_cons_mk (shut_int Try.underlying3 w1) (trodAll_cons_mk (shut_int Try.underlying3 w2) trodAll_mk0))), rfl, hg.frame _, fun h => by cases h⟩

theorem over : Rows.fnAppendDigitsSortLikeTheirNumbersRow.holds Try.pinned (OpenSpec.ofChange Rows.fnAppendDigitsSortLikeTheirNumbersSpec) :=
  OpenClaim.holds_of_wide 4 Try.f4 rfl rfl rfl rfl rfl rfl rfl ⟨rfl, rfl, rfl, rfl, rfl⟩ rfl rfl rfl rfl rfl (by kernel_rfl) Try.func4 (by kernel_rfl)
    (of_decide_eq_true (by kernel_rfl)) (by unfold Func.isWrapper; first | (rw [if_pos (by decide +kernel)]; kernel_rfl) | (rw [if_neg (by decide +kernel)]; exact ⟨rfl, rfl⟩))
    (fun os started H enc _ => lifted os started H enc)

/-- ████ THE STATEMENT ████ -/
theorem proved : Rows.FnAppendDigitsSortLikeTheirNumbersSaid :=
  over
#print axioms proved
end Go.Proofs.Qxb6605304a.fnAppendDigitsSortLikeTheirNumbers
