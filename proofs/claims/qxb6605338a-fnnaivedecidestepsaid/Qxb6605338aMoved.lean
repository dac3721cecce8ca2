/-
  Seat b6605338a. The tuples copied and one slice of numbers exchanged.
-/
import Derived.Test.Qxb6605338aTuples
import Derived.Test.Qxb6605338aStepPlain
namespace Go.Proofs.Qxb6605338a
open Go.RowKit
set_option linter.unusedVariables false

theorem moved_of {w7 w8 : World} {H : Held} {ra : Nat → Option Addr} {xa : Nat → Nat → Option Addr} (h : TupOut w7 w8 H ra xa) {c0 T nb : Nat} {v : Int} (hc : c0 < H.n) (h1 : H.rn c0 = 1)
    (hnb : nb < w7.heap.size) (hnx : RowI .u64 w7 (some ⟨nb, 0, none⟩) (H.xn c0 0) (turn H.X c0 T v c0 0)) :
    ∃ rb f, ra c0 = some ⟨rb, 0, none⟩ ∧ Own w8 rb 3 68 f ∧ w7.heap.size < rb ∧
      IsHeld (w8.setCell ⟨rb, 2, none⟩ (.slice (some ⟨nb, 0, none⟩) (H.xn c0 0) (H.xn c0 0)))
        ⟨some ⟨w7.heap.size, 0, none⟩, H.n, H.n, ra, H.rn, H.rn, H.A, H.V, fun i j => if i = c0 ∧ j = 0 then some ⟨nb, 0, none⟩ else xa i j, H.xn, H.xn, turn H.X c0 T v⟩ := by
  obtain ⟨⟨fo, hown, hd⟩, ht, hdi, hb⟩ := h
  have t0 := ht c0 hc
  cases hra : ra c0 with
  | none => have := t0.rh hra; omega
  | some x =>
    obtain ⟨hx, f, hf⟩ := t0.own x hra
    obtain ⟨rb, xo, xs⟩ := x
    simp only [Addr.mk.injEq, true_and] at hx
    obtain ⟨rfl, rfl⟩ := hx
    rw [h1] at hf
    have hrb := t0.rb _ hra
    simp only at hrb hf
    refine ⟨rb, f, rfl, hf, by omega, ?_⟩
    have hs := (SameBut.refl rb w8).set 2 (.slice (some ⟨nb, 0, none⟩) (H.xn c0 0) (H.xn c0 0))
    have row0 := t0.row
    rw [hra, h1] at row0
    rcases row0 with h0 | ⟨rb', ro, he, hrow⟩
    · omega
    simp only [Option.some.injEq, Addr.mk.injEq, and_true] at he
    obtain ⟨rfl, rfl⟩ := he
    obtain ⟨q0, q1, q2⟩ := hrow 0 (by omega)
    simp only [Nat.zero_mul, Nat.zero_add, Nat.add_zero] at q0 q1 q2
    refine ⟨.inr ⟨_, 0, rfl, fun i hi => ?_⟩, fun i hi => ?_, fun i hi j hj => ?_⟩
    · show World.cell? _ ⟨_, 0 + i, none⟩ = _
      rw [Nat.zero_add, ← hd i hi]
      exact (hown.set_ne (by simp; omega) _).cell hi
    · show RowT _ (ra i) (H.rn i) (H.A i) (H.V i) (fun j => if i = c0 ∧ j = 0 then some ⟨nb, 0, none⟩ else xa i j) (H.xn i) (H.xn i)
      by_cases e : i = c0
      · subst e
        rw [hra, h1]
        refine .inr ⟨rb, 0, rfl, fun j hj => ?_⟩
        obtain rfl : j = 0 := by omega
        simp only [Nat.zero_mul, Nat.zero_add, and_self, if_true]
        refine ⟨?_, ?_, ?_⟩
        · exact (World.cell?_setCell_other _ _ _ _ (show (⟨rb, 2, none⟩ : Addr) ≠ ⟨rb, 0, none⟩ by simp)).trans q0
        · exact (World.cell?_setCell_other _ _ _ _ (show (⟨rb, 2, none⟩ : Addr) ≠ ⟨rb, 1, none⟩ by simp)).trans q1
        · exact World.cell?_setCell_same _ _ _ q2
      · have hne : ∀ y, ra i = some y → y.block ≠ rb := by
          intro y hy
          rcases Nat.lt_or_gt_of_ne e with hl | hl
          · have := hdi c0 hc i hl _ y hra hy; simp at this; omega
          · have := hdi i hi c0 hl y _ hy hra; simp at this; omega
        have hr := (ht i hi).row
        have e' : (fun j => if i = c0 ∧ j = 0 then some ⟨nb, 0, none⟩ else xa i j) = xa i := by funext j; rw [if_neg (fun h => e h.1)]
        rw [e']
        rcases hr with h0 | ⟨b, o, hbo, hr⟩
        · exact .inl h0
        · have hn2 := hne _ hbo
          have ee : ∀ o', (w8.setCell ⟨rb, 2, none⟩ (.slice (some ⟨nb, 0, none⟩) (H.xn c0 0) (H.xn c0 0))).cell? ⟨b, o', none⟩ = w8.cell? ⟨b, o', none⟩ := fun o' => World.cell?_of_block (w := w8) (hs b hn2)
          exact .inr ⟨b, o, hbo, fun k hk => by rw [ee, ee, ee]; exact hr k hk⟩
    · show RowI .u64 _ (if i = c0 ∧ j = 0 then some ⟨nb, 0, none⟩ else xa i j) (H.xn i j) (turn H.X c0 T v i j)
      by_cases e : i = c0 ∧ j = 0
      · obtain ⟨rfl, rfl⟩ := e
        simp only [and_self, if_true]
        refine RowI.same hs (fun y hy => ?_) (hnx.keep hb)
        simp at hy; subst hy; simp; omega
      · rw [if_neg e]
        have hX : turn H.X c0 T v i j = H.X i j := by funext q; unfold turn; rw [if_neg (fun h => e ⟨h.1, h.2.1⟩)]
        rw [hX]
        rcases (ht i hi).num j hj with h0 | ⟨b, o, hbo, hr⟩
        · exact .inl h0
        · refine .inr ⟨b, o, hbo, fun k hk => ?_⟩
          have hne : (⟨rb, 2, none⟩ : Addr) ≠ ⟨b, o + k, none⟩ := by
            intro hh
            have h3 := hr k hk
            rw [← hh, q2] at h3
            simp at h3
          exact (World.cell?_setCell_other _ _ _ _ hne).trans (hr k hk)
end Go.Proofs.Qxb6605338a
