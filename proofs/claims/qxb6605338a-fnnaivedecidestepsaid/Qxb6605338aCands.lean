/-
  Seat b6605338a. 'singles' (21) and 'draw' (29).
-/
import Derived.Test.Qxb6605338aHeld
namespace Go.Proofs.Qxb6605338a
open Go.RowKit
set_option linter.unusedVariables false

theorem Try.info3 : (Try.prog.info? 3).map (fun i => (i.zero, i.size, i.bytes)) = some (some (.int .i64 0), 1, 8) := by kernel_rfl

/-- The candidates so far, in a row of the call's own. -/
structure Cands (w wr : World) (B : Nat) (rn : Nat → Nat) (k : Nat) (v : Value) : Prop where
  own : wr.ownsRow B 3 1 v (cl rn k).length ((cl rn k).map fun (j : Nat) => Value.int .i64 (j : Int))
  bel : Below B w wr

theorem Cands.row {w wr : World} {B : Nat} {rn : Nat → Nat} {n : Nat} {v : Value} (h : Cands w wr B rn n v) : ∃ a c, v = .slice a (cl rn n).length c ∧ Head a (cl rn n).length c ∧ RowI .i64 wr a (cl rn n).length (fun i => (cand rn n i : Int)) ∧ ∀ x, a = some x → B ≤ x.block := by
  obtain ⟨⟨hl, h | ⟨g, cap, cur, rfl, hb, hg, hn, hc, hs, ht⟩⟩, bel⟩ := h
  · obtain ⟨rfl, h0⟩ := h
    exact ⟨none, 0, by rw [h0], ⟨by omega, Nat.zero_le _, fun _ => ⟨h0, rfl⟩⟩, .inl h0, by simp⟩
  · refine ⟨_, _, rfl, ⟨hn, hc, by simp⟩, ?_, fun x hx => by simp at hx; subst hx; exact hb⟩
    refine .inr ⟨g, 0, rfl, fun i hi => ?_⟩
    have e : (cur.toList.take ((cl rn n).length * 1))[i]? = cur[i]? := by rw [List.getElem?_take_of_lt (by omega)]; simp
    rw [ht] at e
    simp only [World.cell?, hg, Nat.zero_add]
    rw [← e]
    unfold cand
    simp [hi]

theorem Cands.step {w wr w' : World} {B : Nat} {rn : Nat → Nat} {k : Nat} {v v' : Value} (h : Cands w wr B rn k v) (h1 : rn k = 1) (ho : w'.ownsRow B 3 1 v' ((cl rn k).length + 1) (((cl rn k).map fun (j : Nat) => Value.int .i64 (j : Int)) ++ [.int .i64 (k : Int)])) (hb : Below B w w') : Cands w w' B rn (k + 1) v' := by
  refine ⟨?_, hb⟩
  rw [cl_one h1]
  simpa using ho
theorem Cands.skip {w wr : World} {B : Nat} {rn : Nat → Nat} {k : Nat} {v : Value} (h : Cands w wr B rn k v) (h1 : ¬ rn k = 1) : Cands w wr B rn (k + 1) v := by
  refine ⟨?_, h.bel⟩
  rw [cl_not h1]
  exact h.own
theorem Cands.start (w wr : World) (rn : Nat → Nat) (B : Nat) (hb : Below B w wr) : Cands w wr B rn 0 (.slice none 0 0) := ⟨⟨by simp [cl], .inl ⟨rfl, by simp [cl]⟩⟩, hb⟩
theorem Cands.own_ge {w wr : World} {B : Nat} {rn : Nat → Nat} {k : Nat} {v : Value} (h : Cands w wr B rn k v) : ∀ j, v.ownBlock = some j → B ≤ j := by
  intro j hj
  obtain ⟨⟨hl, h | ⟨g, cap, cur, rfl, hb, hg, hn, hc, hs, ht⟩⟩, bel⟩ := h
  · obtain ⟨rfl, h0⟩ := h
    simp [Value.ownBlock] at hj
  · simp [Value.ownBlock] at hj; omega

def CandPost (w : World) (rn : Nat → Nat) (n : Nat) (e : Ending) (w' : World) : Prop := ∃ v, e = .returned v ∧ Cands w w' w.heap.size rn n v

set_option maxRecDepth 100000 in
set_option maxHeartbeats 4000000 in
theorem singles_any (H : Held) (w : World) (h : IsHeld w H) (hs : Small H) :
    Calls Try.prog 21 #[.slice H.a H.n H.c] w fun e w' => CandPost w H.rn H.n e w' := by
  obtain ⟨rows, _, _⟩ := h
  obtain ⟨a, n, c, ra, rn, rc, A, V, xa, xn, xc, X⟩ := H
  obtain ⟨s1, s2, s3⟩ := hs
  obtain ⟨i0, hi, hz0, hz1, hz2⟩ := info_parts Try.info3
  dsimp only at *
  have HRO := veil rows
  have HS2 := veil s2
  have HI := veil hi
  have HZ0 := veil hz0
  have HZ1 := veil hz1
  have HZ2 := veil hz2
  clear rows s2 s3 hi hz0 hz1 hz2
  go_enter Try.func21, Try.ntmps21
  go_wp2
  go_loopw [3, 4] (fun v i wr => ∃ k : Nat, k ≤ n ∧ i = .int .i64 k ∧ Hid (Cands w wr w.heap.size rn k v)) (fun _ i _ => n - (intOf i).toNat)
  case atStart => exact ⟨0, Nat.zero_le _, rfl, Cands.start w w rn _ (Below.refl _ _)⟩
  case round =>
    obtain ⟨k, hk, rfl, HC⟩ := hrel
    by_cases hlt : k < n
    · rcases HRO.out with h0 | ⟨b, o, rfl, hc⟩
      · omega
      have hli : (k : Int) < (n : Int) := by omega
      have g1 := keep HC.out.bel (hc k hlt)
      have g3 := HS2.out k hlt
      obtain ⟨R, hR⟩ : ∃ R, R = rn k := ⟨_, rfl⟩
      have HR := veil hR
      rw [← hR] at g1 g3
      clear hc hR
      by_cases t1 : R = 1
      · subst t1
        go_wp2_with (at_builtin; refine wpList_append_own _ rfl _ _ 57 rfl w.heap.size 3 i0 (.int .i64 0) 1 8 Try.underlying57 HI.out HZ0.out HZ1.out HZ2.out rfl (by decide) _ _ _ rfl (HC.out.own.alloc _) ⟨wr.heap.size, 0, none⟩ 1 1 [.int .i64 k] rfl rfl ?c1 ?c2 ?c3 ?c4 ?c5 ?_)
        case c1 =>
          intro j u hj
          match j, hj with
          | 0, hj => simp at hj; subst hj; simp [Addr.add]
        case c2 => intro u hu; simp at hu; subst hu; rfl
        case c3 => have := cl_len rn k; unfold maxLen; omega
        case c4 => have := cl_len rn k; omega
        case c5 => have := HC.out.bel.size; simp; omega
        · intro v' w1 hown' hgrow _
          have HB : Below w.heap.size w w1 := (HC.out.bel.alloc HC.out.bel.size _).grown hgrow (by have := HC.out.bel.size; simp; omega) HC.out.own_ge
          have HC2 := veil (HC.out.step HR.out.symm hown' HB)
          clear hown' hgrow HB
          go_wp2
          go_roundw
          case rel => exact ⟨k + 1, by omega, by go_num, HC2⟩
          case measure => simp [intOf]; omega
      · have t1' : decide ((R : Int) = 1) = false := by simp; omega
        have t1'' : ((R : Int) == 1) = false := by simp; omega
        go_wp2
        go_roundw
        case rel => exact ⟨k + 1, by omega, by go_num, HC.out.skip (by rw [← HR.out]; exact t1)⟩
        case measure => simp [intOf]; omega
    · have hke : k = n := by omega
      rw [hke] at HC
      go_wp2
      go_ret
      exact ⟨_, rfl, HC.out⟩

set_option maxRecDepth 100000 in
set_option maxHeartbeats 4000000 in
/-- 'draw': the candidate at the place that the numbers' residues sum to, counted from the top. -/
theorem draw_any (a : Option Addr) (k c : Nat) (C : Nat → Int) (x : Option Addr) (xc : Nat) (X : Nat → Int) (w : World) (hk : 0 < k) (hk' : k ≤ 1048576) (hC : RowI .i64 w a k C) (hX : RowI .u64 w x k X) (hr : ∀ i, i < k → 0 ≤ X i ∧ X i < 18446744073709551616) :
    Calls Try.prog 29 #[.slice a k c, .slice x k xc] w fun e w' => e = .returned (.int .i64 (C (k - 1 - (rsum X k k % k).toNat))) ∧ w = w' := by
  rcases hC with h0 | ⟨b, o, rfl, hC⟩
  · omega
  rcases hX with h0 | ⟨xb, xo, rfl, hX⟩
  · omega
  have HC := veil hC
  have HX := veil hX
  have HRG := veil hr
  clear hC hX hr
  have hk1 : (0 : Int) < (k : Int) := by omega
  go_enter Try.func29, Try.ntmps29
  go_wp2
  go_loop [6, 14] (fun s i => ∃ j : Nat, j ≤ k ∧ i = .int .i64 j ∧ ∃ S : Int, s = .int .u64 S ∧ 0 ≤ S ∧ S < k ∧ Hid (S = rsum X k j % k)) (fun _ i => k - (intOf i).toNat)
  case atStart => exact ⟨0, Nat.zero_le _, rfl, 0, rfl, Int.le_refl _, hk1, by show _ = _; simp [rsum]⟩
  case round =>
    obtain ⟨j, hj, rfl, S, rfl, hS0, hS1, HS⟩ := hrel
    by_cases hlt : j < k
    · have hli : (j : Int) < (k : Int) := by omega
      have g1 := HX.out j hlt
      obtain ⟨r0, r1⟩ := HRG.out j hlt
      have e0 := Int.emod_nonneg (X j) (show (k : Int) ≠ 0 by omega)
      have e1 := Int.emod_lt_of_pos (X j) hk1
      go_wp2
      go_round
      case rel => exact ⟨j + 1, by omega, by go_num, _, rfl, Int.emod_nonneg _ (by omega), Int.emod_lt_of_pos _ hk1, by show _ = _; rw [HS.out, rsum_mod]⟩
      case measure => simp [intOf]; omega
    · have hje : j = k := by omega
      rw [hje] at HS
      obtain ⟨s, rfl⟩ := Int.eq_ofNat_of_zero_le hS0
      have hs : s < k := by omega
      have g1 := HC.out (k - 1 - s) (by omega)
      have hcast : ((k - 1 - s : Nat) : Int) = (k : Int) - 1 - s := by omega
      have hix : ((k : Int) - 1 - s).toNat = k - 1 - s := by omega
      have HE : Hid (k - 1 - s = k - 1 - (rsum X k k % k).toNat) := by show _ = _; rw [← HS.out]; simp
      go_wp2
      go_ret
      refine ⟨?_, rfl⟩
      rw [← HE.out]
      rfl
end Go.Proofs.Qxb6605338a
