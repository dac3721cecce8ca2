/-
  Seat b6605338a. 'abort' (28); 'decide' (26) where it gives up.
-/
import Derived.Test.Qxb6605338aCands
import Derived.BigRegion
import Derived.RegionTactic
import Derived.Deep.DeepCutAuto
namespace Go.Proofs.Qxb6605338a
open Go.RowKit
set_option linter.unusedVariables false

/-- Six cells in a row. -/
def At6 (f : Nat → Value) (o : Nat) (v0 v1 v2 v3 v4 v5 : Value) : Prop := f o = v0 ∧ f (o + 1) = v1 ∧ f (o + 2) = v2 ∧ f (o + 3) = v3 ∧ f (o + 4) = v4 ∧ f (o + 5) = v5
theorem Own.set6 {w : World} {g N : Nat} {T : TypeId} {f : Nat → Value} (h : Own w g N T f) (o : Nat) (v0 v1 v2 v3 v4 v5 : Value) :
    ∃ f', Own ((((((w.setCell ⟨g, o, none⟩ v0).setCell ⟨g, o + 1, none⟩ v1).setCell ⟨g, o + 2, none⟩ v2).setCell ⟨g, o + 3, none⟩ v3).setCell ⟨g, o + 4, none⟩ v4).setCell ⟨g, o + 5, none⟩ v5) g N T f' ∧ At6 f' o v0 v1 v2 v3 v4 v5 := by
  refine ⟨_, (((((h.set o v0).set (o + 1) v1).set (o + 2) v2).set (o + 3) v3).set (o + 4) v4).set (o + 5) v5, ?_⟩
  refine ⟨?_, ?_, ?_, ?_, ?_, ?_⟩ <;> simp [upd]
theorem below6 {B : Nat} {a w : World} (h : Below B a w) {g : Nat} (hg : B ≤ g) (o : Nat) (v0 v1 v2 v3 v4 v5 : Value) :
    Below B a ((((((w.setCell ⟨g, o, none⟩ v0).setCell ⟨g, o + 1, none⟩ v1).setCell ⟨g, o + 2, none⟩ v2).setCell ⟨g, o + 3, none⟩ v3).setCell ⟨g, o + 4, none⟩ v4).setCell ⟨g, o + 5, none⟩ v5) := (((((h.setCell hg v0).setCell hg v1).setCell hg v2).setCell hg v3).setCell hg v4).setCell hg v5

/-- The agent has given up. -/
def Gone (g : Nat) (w w' : World) : Prop := (∃ F, Own w' g 12 96 F ∧ At6 F 6 (.bool true) (.bool true) (.pointer none) (.pointer none) (.slice none 0 0) (.pointer none)) ∧ Below g w w'

set_option maxRecDepth 100000 in
set_option maxHeartbeats 1000000 in
theorem abort_any (g : Nat) (F : Nat → Value) (w : World) (h : Own w g 12 96 F) :
    Calls Try.prog 28 #[.pointer (some ⟨g, 0, none⟩)] w fun e w' => e = .returned (.tuple #[]) ∧ Gone g w w' := by
  have HG : Hid (Gone g w _) := ⟨h.set6 6 (.bool true) (.bool true) (.pointer none) (.pointer none) (.slice none 0 0) (.pointer none), below6 (Below.refl g w) (Nat.le_refl _) 6 _ _ _ _ _ _⟩
  have x0 := h.cell (i := 6) (by omega)
  have x1 := h.cell (i := 7) (by omega)
  have x2 := h.cell (i := 8) (by omega)
  have x3 := h.cell (i := 9) (by omega)
  have x4 := h.cell (i := 10) (by omega)
  have x5 := h.cell (i := 11) (by omega)
  have f0 := h.frozen 6
  have f1 := h.frozen 7
  have f2 := h.frozen 8
  have f3 := h.frozen 9
  have f4 := h.frozen 10
  have f5 := h.frozen 11
  clear h
  go_enter Try.func28, Try.ntmps28
  go_wp2
  exact bodyPost_end (results_none Try.results28 _ _ _) rfl ⟨rfl, HG.out⟩

theorem Gone.from {g : Nat} {w w1 w' : World} (h : Gone g w1 w') (hb : Below g w w1) : Gone g w w' := ⟨h.1, hb.trans h.2⟩

set_option maxRecDepth 100000 in
set_option maxHeartbeats 4000000 in
/-- 'decide' where someone holds two tuples, or too few hold one. -/
theorem decide_gone (g : Nat) (F : Nat → Value) (H : Held) (f : Int) (w : World) (hg : Own w g 12 96 F) (h0 : F 0 = .int .i64 H.n) (h1 : F 1 = .int .i64 f) (h3 : F 3 = .slice H.a H.n H.c)
    (h : IsHeld w H) (hs : Small H) (hf : 0 ≤ f) (hfn : f < H.n) (hab : (∃ j, j < H.n ∧ 1 < H.rn j) ∨ ((cl H.rn H.n).length : Int) < H.n - f) :
    Calls Try.prog 26 #[.pointer (some ⟨g, 0, none⟩)] w fun e w' => e = .returned (.tuple #[]) ∧ Gone g w w' := by
  obtain ⟨rows, _, _⟩ := h
  obtain ⟨a, n, c, ra, rn, rc, A, V, xa, xn, xc, X⟩ := H
  obtain ⟨s1, s2, s3⟩ := hs
  obtain ⟨i0, hi, hz0, hz1, hz2⟩ := info_parts Try.info3
  dsimp only at *
  have HRO := veil rows
  have HS2 := veil s2
  have HI := veil hi
  have HZ0 := veil hz0
  have HZ1 := veil hz1
  have HZ2 := veil hz2
  have HOW := veil hg
  have HAB := veil hab
  have x0 := hg.cell (i := 0) (by omega)
  have x1 := hg.cell (i := 1) (by omega)
  have x3 := hg.cell (i := 3) (by omega)
  have hgl := hg.lt
  rw [h0] at x0
  rw [h1] at x1
  rw [h3] at x3
  have X0 := veil x0
  have X1 := veil x1
  clear rows s2 s3 hi hz0 hz1 hz2 hg hab h0 h1 h3 x0 x1
  go_enter Try.func26, Try.ntmps26
  go_wp2
  go_loopw [2, 16] (fun v i wr => ∃ k : Nat, k ≤ n ∧ i = .int .i64 k ∧ Hid (Cands w wr w.heap.size rn k v) ∧ Hid (∀ j, j < k → rn j ≤ 1)) (fun _ i _ => n - (intOf i).toNat)
  case atStart => exact ⟨0, Nat.zero_le _, rfl, Cands.start w w rn _ (Below.refl _ _), fun j hj => by omega⟩
  case round =>
    obtain ⟨k, hk, rfl, HC, HL⟩ := hrel
    clear x3
    by_cases hlt : k < n
    · rcases HRO.out with h0 | ⟨b, o, rfl, hc⟩
      · omega
      have hli : (k : Int) < (n : Int) := by omega
      have g1 := keep HC.out.bel (hc k hlt)
      have g3 := HS2.out k hlt
      obtain ⟨R, hR⟩ : ∃ R, R = rn k := ⟨_, rfl⟩
      have HR := veil hR
      rw [← hR] at g1 g3
      clear hc hR
      by_cases t0 : 1 < R
      · have t0' : decide ((1 : Int) < (R : Int)) = true := by simp; omega
        go_wp2_with fail
        refine (abort_any g F _ (HOW.out.keep HC.out.bel hgl)).mono ?_
        rintro e w1 ⟨rfl, hgone⟩
        have HG := veil (hgone.from (HC.out.bel.mono (Nat.le_of_lt hgl)))
        clear hgone
        go_wp2
        exact bodyPost_ret (results_none Try.results26 _ _ _) rfl ⟨rfl, HG.out⟩
      have t0' : decide ((1 : Int) < (R : Int)) = false := by simp; omega
      have HL2 : Hid (∀ j, j < k + 1 → rn j ≤ 1) := by
        intro j hj
        by_cases e : j = k
        · subst e; rw [← HR.out]; omega
        · exact HL.out j (by omega)
      by_cases t1 : R = 1
      · subst t1
        go_wp2_with (at_builtin; refine wpList_append_own _ rfl _ _ 57 rfl w.heap.size 3 i0 (.int .i64 0) 1 8 Try.underlying57 HI.out HZ0.out HZ1.out HZ2.out rfl (by decide) _ _ _ rfl (HC.out.own.alloc _) ⟨wr.heap.size, 0, none⟩ 1 1 [.int .i64 k] rfl rfl ?c1 ?c2 ?c3 ?c4 ?c5 ?_)
        case c1 =>
          intro j u hj
          match j, hj with
          | 0, hj => simp at hj; subst hj; simp [Addr.add]
        case c2 => intro u hu; simp at hu; subst hu; rfl
        case c3 => have := cl_len rn k; unfold maxLen; omega
        case c4 => have := cl_len rn k; omega
        case c5 => have := HC.out.bel.size; simp; omega
        · intro v' w1 hown' hgrow _
          have HB : Below w.heap.size w w1 := (HC.out.bel.alloc HC.out.bel.size _).grown hgrow (by have := HC.out.bel.size; simp; omega) HC.out.own_ge
          have HC2 := veil (HC.out.step HR.out.symm hown' HB)
          clear hown' hgrow HB
          go_wp2
          go_roundw
          case rel => exact ⟨k + 1, by omega, by go_num, HC2, HL2⟩
          case measure => simp [intOf]; omega
      · have t1' : decide ((R : Int) = 1) = false := by simp; omega
        have t1'' : ((R : Int) == 1) = false := by simp; omega
        go_wp2
        go_roundw
        case rel => exact ⟨k + 1, by omega, by go_num, HC.out.skip (by rw [← HR.out]; exact t1), HL2⟩
        case measure => simp [intOf]; omega
    · have hke : k = n := by omega
      rw [hke] at HC HL
      have hfew : ((cl rn n).length : Int) < n - f := by
        rcases HAB.out with ⟨j, hj, hj1⟩ | h
        · have := HL.out j hj; omega
        · exact h
      obtain ⟨ca, cc, rfl, hch, _, _⟩ := HC.out.row
      have x0 := keep HC.out.bel X0.out
      have x1 := keep HC.out.bel X1.out
      have hln := cl_len rn n
      obtain ⟨K, hK⟩ : ∃ K, K = (cl rn n).length := ⟨_, rfl⟩
      have HKK := veil hK
      rw [← hK] at hfew hln
      clear hch
      obtain ⟨w5, h5⟩ : ∃ x, x = wr := ⟨_, rfl⟩
      subst h5
      have ht : decide ((K : Int) < (n : Int) - f) = true := by simp; omega
      rw [← hK]
      clear hK
      go_wp2
      go_quiet (fail)
      go_wp2_with fail
      refine (abort_any g F _ ((HOW.out.keep HC.out.bel hgl).drewN _)).mono ?_
      rintro e w1 ⟨rfl, hgone⟩
      have HG := veil (hgone.from (below_drewN (HC.out.bel.mono (Nat.le_of_lt hgl)) _))
      clear hgone
      go_wp2
      exact bodyPost_ret (results_none Try.results26 _ _ _) rfl ⟨rfl, HG.out⟩
end Go.Proofs.Qxb6605338a
