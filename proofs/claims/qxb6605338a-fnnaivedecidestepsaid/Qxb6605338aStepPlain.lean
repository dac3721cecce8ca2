/-
  Seat b6605338a. The plain law of FnNaiveDecideStep: one step of the lowest candidate's number moves the choice by one place.
-/
import Derived.Test.Qxb6605338aMade
namespace Go.Proofs.Qxb6605338a
open Go.RowKit
set_option linter.unusedVariables false

theorem cand_lt {rn : Nat → Nat} {n i j : Nat} (hj : j < (cl rn n).length) (h : i < j) : cand rn n i < cand rn n j := by
  induction n with
  | zero => simp [cl] at hj
  | succ n ih =>
    by_cases e : rn n = 1
    · rw [cl_one e] at hj
      simp at hj
      by_cases hl : j < (cl rn n).length
      · rw [cand_prefix (j := n) (by omega) hl, cand_prefix (j := n) (i := i) (by omega) (by omega)]
        exact ih hl
      · have hje : j = (cl rn n).length := by omega
        rw [hje, cand_last e, cand_prefix (j := n) (i := i) (by omega) (by omega)]
        exact (cand_mem (by omega)).1
    · rw [cl_not e] at hj
      rw [cand_prefix (j := n) (by omega) hj, cand_prefix (j := n) (i := i) (by omega) (by omega)]
      exact ih hj
theorem cand_inj {rn : Nat → Nat} {n i j : Nat} (hi : i < (cl rn n).length) (hj : j < (cl rn n).length) (h : cand rn n i = cand rn n j) : i = j := by
  rcases Nat.lt_trichotomy i j with h1 | h1 | h1
  · have := cand_lt hj h1; omega
  · exact h1
  · have := cand_lt hi h1; omega

/-- One number turned. -/
def turn (X : Nat → Nat → Nat → Int) (c t : Nat) (v : Int) : Nat → Nat → Nat → Int := fun i j q => if i = c ∧ j = 0 ∧ q = t then v else X i j q

theorem rsum_turn {x y : Nat → Int} {k d : Int} (h0 : y 0 = x 0 + d) (h : ∀ i, 0 < i → y i = x i) (i : Nat) : rsum y k (i + 1) % k = (rsum x k (i + 1) + d) % k := by
  induction i with
  | zero =>
    simp only [rsum, Int.zero_add]
    rw [h0, Int.emod_emod, Int.emod_add_emod]
  | succ i ih =>
    rw [rsum_mod, ih, h (i + 1) (by omega), Int.emod_add_emod, Int.add_right_comm]
    rfl

theorem xAt_turn {rn : Nat → Nat} {n : Nat} {X : Nat → Nat → Nat → Int} {v : Int} (hK : 0 < (cl rn n).length) :
    xAt rn n (turn X (cand rn n 0) (n - (cl rn n).length) v) 0 = v ∧ ∀ i, 0 < i → i < (cl rn n).length → xAt rn n (turn X (cand rn n 0) (n - (cl rn n).length) v) i = xAt rn n X i := by
  refine ⟨?_, fun i h0 hi => ?_⟩
  · unfold xAt turn; simp
  · unfold xAt turn
    rw [if_neg]
    rintro ⟨h1, _⟩
    have := cand_inj hi hK h1
    omega

theorem place_turn {rn : Nat → Nat} {n : Nat} {X : Nat → Nat → Nat → Int} {d : Int} (hK : 0 < (cl rn n).length) :
    ((place rn n (turn X (cand rn n 0) (n - (cl rn n).length) (xAt rn n X 0 + d)) : Nat) : Int) = ((place rn n X : Nat) + d) % ((cl rn n).length : Int) := by
  obtain ⟨K, hk⟩ : ∃ K, (cl rn n).length = K + 1 := ⟨(cl rn n).length - 1, by omega⟩
  have hpos : (0 : Int) < ((cl rn n).length : Int) := by omega
  obtain ⟨a0, a1⟩ := xAt_turn (rn := rn) (n := n) (X := X) (v := xAt rn n X 0 + d) hK
  have hy : rsum (xAt rn n (turn X (cand rn n 0) (n - (cl rn n).length) (xAt rn n X 0 + d))) (cl rn n).length (cl rn n).length
      = rsum (fun i => if i = 0 then xAt rn n X 0 + d else xAt rn n X i) (cl rn n).length (cl rn n).length := by
    apply rsum_congr
    intro j hj
    by_cases e : j = 0
    · subst e; simp [a0]
    · simp only [e, if_false]; exact a1 j (by omega) hj
  unfold place
  rw [hy, hk]
  have h1 := rsum_turn (x := xAt rn n X) (y := fun i => if i = 0 then xAt rn n X 0 + d else xAt rn n X i) (k := ((K + 1 : Nat) : Int)) (d := d) (by simp) (fun i hi => if_neg (by omega)) K
  rw [h1]
  rw [hk] at hpos
  have h2 := Int.emod_nonneg (rsum (xAt rn n X) ((K + 1 : Nat) : Int) (K + 1) + d) (show ((K + 1 : Nat) : Int) ≠ 0 by omega)
  have h3 := Int.emod_nonneg (rsum (xAt rn n X) ((K + 1 : Nat) : Int) (K + 1)) (show ((K + 1 : Nat) : Int) ≠ 0 by omega)
  rw [Int.toNat_of_nonneg h2, Int.toNat_of_nonneg h3, Int.emod_add_emod]

theorem place_lt {rn : Nat → Nat} {n : Nat} {X : Nat → Nat → Nat → Int} (hK : 0 < (cl rn n).length) : place rn n X < (cl rn n).length := by
  unfold place
  have := Int.emod_lt_of_pos (rsum (xAt rn n X) (cl rn n).length (cl rn n).length) (show (0 : Int) < ((cl rn n).length : Int) by omega)
  omega

/-- A step up: the next lower place, cyclically. -/
theorem place_up {rn : Nat → Nat} {n : Nat} {X : Nat → Nat → Nat → Int} (hK : 0 < (cl rn n).length) :
    (cl rn n).length - 1 - place rn n (turn X (cand rn n 0) (n - (cl rn n).length) (xAt rn n X 0 + 1)) = ((cl rn n).length - 1 - place rn n X + (cl rn n).length - 1) % (cl rn n).length := by
  have h1 := place_turn (X := X) (d := 1) hK
  have h2 := place_lt (X := X) hK
  generalize place rn n (turn X (cand rn n 0) (n - (cl rn n).length) (xAt rn n X 0 + 1)) = p' at *
  generalize place rn n X = p at *
  generalize (cl rn n).length = K at *
  by_cases e : p + 1 = K
  · rw [show (p : Int) + 1 = K by omega, Int.emod_self] at h1
    rw [show p' = 0 by omega, show K - 1 - p + K - 1 = K - 1 by omega, Nat.mod_eq_of_lt (by omega)]
    omega
  · rw [Int.emod_eq_of_lt (by omega) (by omega)] at h1
    rw [show K - 1 - p + K - 1 = (K - 1 - p - 1) + K by omega, Nat.add_mod_right, Nat.mod_eq_of_lt (by omega)]
    omega
/-- A step down: the next higher place, cyclically. -/
theorem place_down {rn : Nat → Nat} {n : Nat} {X : Nat → Nat → Nat → Int} (hK : 0 < (cl rn n).length) :
    (cl rn n).length - 1 - place rn n (turn X (cand rn n 0) (n - (cl rn n).length) (xAt rn n X 0 + -1)) = ((cl rn n).length - 1 - place rn n X + 1) % (cl rn n).length := by
  have h1 := place_turn (X := X) (d := -1) hK
  have h2 := place_lt (X := X) hK
  generalize place rn n (turn X (cand rn n 0) (n - (cl rn n).length) (xAt rn n X 0 + -1)) = p' at *
  generalize place rn n X = p at *
  generalize (cl rn n).length = K at *
  by_cases e : p = 0
  · subst e
    have h3 : ((0 : Nat) + (-1) : Int) % (K : Int) = (K : Int) - 1 := by
      rw [← Int.add_emod_right, Int.emod_eq_of_lt (by omega) (by omega)]; omega
    rw [h3] at h1
    rw [show K - 1 - 0 + 1 = K by omega, Nat.mod_self]
    omega
  · rw [Int.emod_eq_of_lt (by omega) (by omega)] at h1
    rw [Nat.mod_eq_of_lt (by omega)]
    omega
end Go.Proofs.Qxb6605338a
