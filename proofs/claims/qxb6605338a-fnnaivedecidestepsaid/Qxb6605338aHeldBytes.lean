/-
  Seat b6605338a. 'zzBytes_FnNaiveDecideExact' (16), 'zzBytes_FnNaiveDecideStep' (22), 'heldBytes' (17), 'heldShaped' (18).
-/
import Derived.Test.Qxb6605338aHeld
namespace Go.Proofs.Qxb6605338a
open Go.RowKit
set_option linter.unusedVariables false

set_option maxRecDepth 100000 in
set_option maxHeartbeats 4000000 in
theorem zz16_any (x y : Int) (H : Held) (w : World) (h : IsHeld w H) :
    Calls Try.prog 16 #[.int .i64 x, .int .i64 y, .slice H.a H.n H.c] w fun e w' => SomeBool e ∧ w = w' := by
  obtain ⟨rows, tups, _⟩ := h
  obtain ⟨a, n, c, ra, rn, rc, A, V, xa, xn, xc, X⟩ := H
  dsimp only at *
  have HRO := veil rows
  have HTU := veil tups
  clear rows tups
  go_enter Try.func16, Try.ntmps16
  go_wp2
  all_goals first | (go_ret; exact ⟨⟨_, rfl⟩, rfl⟩) | skip
  have h1' : (n : Int) ≤ 1048576 := by assumption
  go_loop [7, 8] (fun s i => ∃ k S : Nat, k ≤ n ∧ i = .int .i64 k ∧ s = .int .i64 S ∧ S ≤ 1048576) (fun _ i => n - (intOf i).toNat)
  case atStart => exact ⟨0, n, Nat.zero_le _, rfl, by go_num, by omega⟩
  case round =>
    obtain ⟨k, S, hk, rfl, rfl, hS⟩ := hrel
    have hS' : (S : Int) ≤ 1048576 := by omega
    by_cases hlt : k < n
    · rcases HRO.out with h0 | ⟨b, o, rfl, hc⟩
      · omega
      have hli : (k : Int) < (n : Int) := by omega
      have g1 := hc k hlt
      have HT := veil (HTU.out k hlt)
      clear hc
      by_cases t1 : (rn k : Int) ≤ 1048576
      · by_cases t2 : (S : Int) + rn k ≤ 1048576
        · go_wp2
          go_loop [7, 9] (fun s i => ∃ k' S' : Nat, k' ≤ rn k ∧ i = .int .i64 k' ∧ s = .int .i64 S' ∧ S' ≤ 1048576) (fun _ i => rn k - (intOf i).toNat)
          case atStart => exact ⟨0, S + rn k, Nat.zero_le _, rfl, by go_num, by omega⟩
          case round =>
            obtain ⟨k', S', hk', rfl, rfl, hS2⟩ := hrel
            have hS2' : (S' : Int) ≤ 1048576 := by omega
            by_cases hlt' : k' < rn k
            · rcases HT.out with h0 | ⟨hb, ho, hra, hrow⟩
              · omega
              rw [hra] at g1
              obtain ⟨g2, g3, g4⟩ := hrow k' hlt'
              have hli' : (k' : Int) < (rn k : Int) := by omega
              have hmem := g1
              clear hrow g1 hra
              go_wp2
              all_goals first | (go_ret; exact ⟨⟨_, rfl⟩, rfl⟩) | skip
              have hz2 : (S' : Int) + (V k k').size + xn k k' ≤ 1048576 := by assumption
              go_round
              case rel => exact ⟨k' + 1, S' + (V k k').size + xn k k', by omega, by go_num, by go_num, by omega⟩
              case measure => simp [intOf]; omega
            · go_wp2
              go_round
              case rel => exact ⟨k + 1, S', by omega, by go_num, rfl, by omega⟩
              case measure => simp [intOf]; omega
        · go_wp2
          go_ret
          exact ⟨⟨_, rfl⟩, rfl⟩
      · go_wp2
        go_ret
        exact ⟨⟨_, rfl⟩, rfl⟩
    · go_wp2
      go_ret
      exact ⟨⟨_, rfl⟩, rfl⟩

set_option maxRecDepth 100000 in
set_option maxHeartbeats 4000000 in
theorem zz22_any (x y : Int) (H : Held) (w : World) (h : IsHeld w H) :
    Calls Try.prog 22 #[.int .i64 x, .int .i64 y, .slice H.a H.n H.c] w fun e w' => SomeBool e ∧ w = w' := by
  obtain ⟨rows, tups, _⟩ := h
  obtain ⟨a, n, c, ra, rn, rc, A, V, xa, xn, xc, X⟩ := H
  dsimp only at *
  have HRO := veil rows
  have HTU := veil tups
  clear rows tups
  go_enter Try.func22, Try.ntmps22
  go_wp2
  all_goals first | (go_ret; exact ⟨⟨_, rfl⟩, rfl⟩) | skip
  have h1' : (n : Int) ≤ 1048576 := by assumption
  go_loop [7, 8] (fun s i => ∃ k S : Nat, k ≤ n ∧ i = .int .i64 k ∧ s = .int .i64 S ∧ S ≤ 1048576) (fun _ i => n - (intOf i).toNat)
  case atStart => exact ⟨0, n, Nat.zero_le _, rfl, by go_num, by omega⟩
  case round =>
    obtain ⟨k, S, hk, rfl, rfl, hS⟩ := hrel
    have hS' : (S : Int) ≤ 1048576 := by omega
    by_cases hlt : k < n
    · rcases HRO.out with h0 | ⟨b, o, rfl, hc⟩
      · omega
      have hli : (k : Int) < (n : Int) := by omega
      have g1 := hc k hlt
      have HT := veil (HTU.out k hlt)
      clear hc
      by_cases t1 : (rn k : Int) ≤ 1048576
      · by_cases t2 : (S : Int) + rn k ≤ 1048576
        · go_wp2
          go_loop [7, 9] (fun s i => ∃ k' S' : Nat, k' ≤ rn k ∧ i = .int .i64 k' ∧ s = .int .i64 S' ∧ S' ≤ 1048576) (fun _ i => rn k - (intOf i).toNat)
          case atStart => exact ⟨0, S + rn k, Nat.zero_le _, rfl, by go_num, by omega⟩
          case round =>
            obtain ⟨k', S', hk', rfl, rfl, hS2⟩ := hrel
            have hS2' : (S' : Int) ≤ 1048576 := by omega
            by_cases hlt' : k' < rn k
            · rcases HT.out with h0 | ⟨hb, ho, hra, hrow⟩
              · omega
              rw [hra] at g1
              obtain ⟨g2, g3, g4⟩ := hrow k' hlt'
              have hli' : (k' : Int) < (rn k : Int) := by omega
              have hmem := g1
              clear hrow g1 hra
              go_wp2
              all_goals first | (go_ret; exact ⟨⟨_, rfl⟩, rfl⟩) | skip
              have hz2 : (S' : Int) + (V k k').size + xn k k' ≤ 1048576 := by assumption
              go_round
              case rel => exact ⟨k' + 1, S' + (V k k').size + xn k k', by omega, by go_num, by go_num, by omega⟩
              case measure => simp [intOf]; omega
            · go_wp2
              go_round
              case rel => exact ⟨k + 1, S', by omega, by go_num, rfl, by omega⟩
              case measure => simp [intOf]; omega
        · go_wp2
          go_ret
          exact ⟨⟨_, rfl⟩, rfl⟩
      · go_wp2
        go_ret
        exact ⟨⟨_, rfl⟩, rfl⟩
    · go_wp2
      go_ret
      exact ⟨⟨_, rfl⟩, rfl⟩

set_option maxRecDepth 100000 in
set_option maxHeartbeats 4000000 in
theorem heldBytes_any (H : Held) (w : World) (h : IsHeld w H) :
    Calls Try.prog 17 #[.slice H.a H.n H.c] w fun e w' => ∃ B : Int, e = .returned (.int .i64 B) ∧ (B ≤ 1048576 → Small H) ∧ ∃ q, w.drewN q = w' := by
  obtain ⟨rows, tups, _⟩ := h
  obtain ⟨a, n, c, ra, rn, rc, A, V, xa, xn, xc, X⟩ := H
  dsimp only at *
  have HRO := veil rows
  have HTU := veil tups
  clear rows tups
  by_cases h1 : 1048576 < n
  · have h1' : (1048576 : Int) < (n : Int) := by omega
    go_enter Try.func17, Try.ntmps17
    go_wp2
    go_ret
    exact ⟨_, rfl, by omega, 0, rfl⟩
  have h1' : (n : Int) ≤ 1048576 := by omega
  go_enter Try.func17, Try.ntmps17
  go_wp2
  go_loopw [3, 4] (fun s i wr => ∃ k q S : Nat, k ≤ n ∧ i = .int .i64 k ∧ s = .int .i64 S ∧ S ≤ 60000000 ∧ wr = w.drewN q ∧ Hid (∀ i, i < k → rn i ≤ 1048576 ∧ ∀ j, j < rn i → xn i j ≤ 1048576)) (fun _ i _ => n - (intOf i).toNat)
  case atStart => exact ⟨0, 0, 24 * n, Nat.zero_le _, rfl, by go_num, by omega, rfl, fun i hi => by omega⟩
  case round =>
    obtain ⟨k, q, S, hk, rfl, rfl, hbd, rfl, HS⟩ := hrel
    by_cases hlt : k < n
    · rcases HRO.out with h0 | ⟨b, o, rfl, hc⟩
      · omega
      have hli : (k : Int) < (n : Int) := by omega
      have g1 := hc k hlt
      have HT := veil (HTU.out k hlt)
      clear hc
      by_cases t1 : 1048576 < S
      · have t1' : decide ((1048576 : Int) < (S : Int)) = true := by simp; omega
        go_wp2
        go_ret
        exact ⟨_, rfl, by omega, q, rfl⟩
      have t1' : decide ((1048576 : Int) < (S : Int)) = false := by simp; omega
      by_cases t2 : 1048576 < rn k
      · have t2' : decide ((1048576 : Int) < (rn k : Int)) = true := by simp; omega
        go_wp2
        go_ret
        exact ⟨_, rfl, by omega, q, rfl⟩
      have t2' : decide ((1048576 : Int) < (rn k : Int)) = false := by simp; omega
      go_wp2
      obtain ⟨w5, hw5⟩ : ∃ x, x = w.drewN q := ⟨_, rfl⟩
      go_loopw [3, 6] (fun s i wr => ∃ k' q S' : Nat, k' ≤ rn k ∧ i = .int .i64 k' ∧ s = .int .i64 S' ∧ S' ≤ 60000000 ∧ wr = w.drewN q ∧ Hid (∀ j, j < k' → xn k j ≤ 1048576)) (fun _ i _ => rn k - (intOf i).toNat)
      case atStart => exact ⟨0, q, S + 48 * rn k, Nat.zero_le _, rfl, by go_num, by omega, rfl, fun i hi => by omega⟩
      case round =>
        obtain ⟨k', q', S', hk', rfl, rfl, hbd', rfl, HS'⟩ := hrel
        by_cases hlt' : k' < rn k
        · rcases HT.out with h0 | ⟨hb, ho, hra, hrow⟩
          · omega
          rw [hra] at g1
          obtain ⟨g2, g3, g4⟩ := hrow k' hlt'
          have hli' : (k' : Int) < (rn k : Int) := by omega
          clear hrow g1
          by_cases u1 : 1048576 < S'
          · have u1' : decide ((1048576 : Int) < (S' : Int)) = true := by simp; omega
            go_wp2
            go_ret
            exact ⟨_, rfl, by omega, _, rfl⟩
          have u1' : decide ((1048576 : Int) < (S' : Int)) = false := by simp; omega
          by_cases u2 : 1048576 < (V k k').size
          · have u2' : decide ((1048576 : Int) < ((V k k').size : Int)) = true := by simp; omega
            go_wp2
            go_ret
            exact ⟨_, rfl, by omega, _, rfl⟩
          have u2' : decide ((1048576 : Int) < ((V k k').size : Int)) = false := by simp; omega
          by_cases u3 : 1048576 < xn k k'
          · have u3' : decide ((1048576 : Int) < (xn k k' : Int)) = true := by simp; omega
            go_wp2
            go_ret
            exact ⟨_, rfl, by omega, _, rfl⟩
          have u3' : decide ((1048576 : Int) < (xn k k' : Int)) = false := by simp; omega
          go_wp2
          go_quiet (fail)
          go_wp2
          go_roundw
          case rel =>
            refine ⟨k' + 1, _, S' + (V k k').size + 8 * xn k k', by omega, by go_num, by go_num, by omega, rfl, fun j hj => ?_⟩
            by_cases e : j = k'
            · subst e; omega
            · exact HS'.out j (by omega)
          case measure => simp [intOf]; omega
        · go_wp2
          go_roundw
          case rel =>
            refine ⟨k + 1, _, S', by omega, by go_num, rfl, by omega, rfl, fun i hi => ?_⟩
            by_cases e : i = k
            · subst e
              exact ⟨by omega, fun j hj => HS'.out j (by omega)⟩
            · exact HS.out i (by omega)
          case measure => simp [intOf]; omega
    · have hke : k = n := by omega
      have HE : Hid (∀ i, i < n → rn i ≤ 1048576 ∧ ∀ j, j < rn i → xn i j ≤ 1048576) := by rw [← hke]; exact HS.out
      by_cases t1 : 1048576 < S
      · have t1' : (1048576 : Int) < (S : Int) := by omega
        go_wp2
        go_ret
        exact ⟨_, rfl, by omega, q, rfl⟩
      · have t1' : (S : Int) ≤ 1048576 := by omega
        go_wp2
        go_ret
        exact ⟨_, rfl, fun _ => ⟨by show n ≤ _; omega, fun i hi => (HE.out i hi).1, fun i hi => (HE.out i hi).2⟩, q, rfl⟩

def ShapedPost (f : Int) (n : Nat) (rn : Nat → Nat) (xn : Nat → Nat → Nat) (e : Ending) : Prop := ∃ r : Bool, e = .returned (.bool r) ∧ (r = true → ∀ j, j < n → rn j = 1 → f < xn j 0)

set_option maxRecDepth 100000 in
set_option maxHeartbeats 4000000 in
/-- 'heldShaped': true only where each single tuple has more than f numbers. -/
theorem heldShaped_any (f : Int) (H : Held) (w : World) (h : IsHeld w H) (hs : Small H) :
    Calls Try.prog 18 #[.int .i64 f, .slice H.a H.n H.c] w fun e w' => ShapedPost f H.n H.rn H.xn e ∧ w = w' := by
  obtain ⟨rows, tups, _⟩ := h
  obtain ⟨a, n, c, ra, rn, rc, A, V, xa, xn, xc, X⟩ := H
  obtain ⟨s1, s2, s3⟩ := hs
  dsimp only at *
  have HRO := veil rows
  have HTU := veil tups
  have HS2 := veil s2
  clear rows tups s2 s3
  go_enter Try.func18, Try.ntmps18
  go_wp2
  go_loop [5] (fun i => ∃ k : Nat, k ≤ n ∧ i = .int .i64 k ∧ Hid (∀ j, j < k → rn j = 1 → f < xn j 0)) (fun i => n - (intOf i).toNat)
  case atStart => exact ⟨0, Nat.zero_le _, rfl, fun i hi => by omega⟩
  case round =>
    obtain ⟨k, hk, rfl, HS⟩ := hrel
    by_cases hlt : k < n
    · rcases HRO.out with h0 | ⟨b, o, rfl, hc⟩
      · omega
      have hli : (k : Int) < (n : Int) := by omega
      have g1 := hc k hlt
      have g2 := HTU.out k hlt
      have g3 := HS2.out k hlt
      have HX : Hid (rn k = 1 → f < xn k 0 → ∀ j, j < k + 1 → rn j = 1 → f < xn j 0) := by
        intro _ hx j hj
        by_cases e : j = k
        · subst e; exact fun _ => hx
        · exact HS.out j (by omega)
      have HY : Hid (rn k ≠ 1 → ∀ j, j < k + 1 → rn j = 1 → f < xn j 0) := by
        intro hx j hj hj1
        by_cases e : j = k
        · subst e; exact absurd hj1 hx
        · exact HS.out j (by omega) hj1
      obtain ⟨R, hR⟩ : ∃ R, R = rn k := ⟨_, rfl⟩
      have HR := veil hR
      rw [← hR] at g1 g2 g3
      clear hc hR
      by_cases t1 : R = 1
      · subst t1
        rcases g2 with h0 | ⟨hb, ho, hra, hrow⟩
        · omega
        rw [hra] at g1
        have g4 := (hrow 0 (by omega)).2.2
        simp only [Nat.zero_mul, Nat.add_zero] at g4
        clear hrow hra
        by_cases t2 : f < xn k 0
        · have t2' : decide ((xn k 0 : Int) ≤ f) = false := by simp; omega
          go_wp2
          go_round
          case rel => exact ⟨k + 1, by omega, by go_num, HX.out HR.out.symm (by omega)⟩
          case measure => simp [intOf]; omega
        · have t2' : decide ((xn k 0 : Int) ≤ f) = true := by simp; omega
          go_wp2
          go_ret
          exact ⟨⟨_, rfl, by simp⟩, rfl⟩
      · have t1' : decide ((R : Int) = 1) = false := by simp; omega
        have t1'' : ((R : Int) == 1) = false := by simp; omega
        clear g2
        go_wp2
        go_round
        case rel => exact ⟨k + 1, by omega, by go_num, HY.out (by rw [← HR.out]; exact t1)⟩
        case measure => simp [intOf]; omega
    · have hke : k = n := by omega
      have HE : Hid (∀ j, j < n → rn j = 1 → f < xn j 0) := by rw [← hke]; exact HS.out
      go_wp2
      go_ret
      exact ⟨⟨_, rfl, fun _ => HE.out⟩, rfl⟩
end Go.Proofs.Qxb6605338a
