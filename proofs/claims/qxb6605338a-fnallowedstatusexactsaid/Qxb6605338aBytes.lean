/-
  Seat b6605338a. 'msgBytes' (13), 'receiptBytes' (8).
-/
import Derived.Test.Qxb6605338aMem
namespace Go.Proofs.Qxb6605338a
open Go.RowKit
set_option linter.unusedVariables false

/-- The sum of the first k of them. -/
def sumN (f : Nat → Nat) : Nat → Nat
  | 0 => 0
  | k + 1 => sumN f k + f k
theorem sumN_succ (f : Nat → Nat) (k : Nat) : sumN f (k + 1) = sumN f k + f k := rfl
theorem sumN_le (f : Nat → Nat) : ∀ {k n : Nat}, k ≤ n → sumN f k ≤ sumN f n := by
  intro k n h
  induction n with
  | zero => have : k = 0 := by omega
            subst this; exact Nat.le_refl _
  | succ n ih =>
    by_cases e : k = n + 1
    · subst e; exact Nat.le_refl _
    · have := ih (by omega); rw [sumN_succ]; omega
theorem sumN_one (f : Nat → Nat) {k n : Nat} (h : k < n) : f k ≤ sumN f n := by
  have := sumN_le f (show k + 1 ≤ n from h)
  rw [sumN_succ] at this; omega

def mBase (m : Msg) : Nat := m.val.size + 24 * m.sn + 48 * m.hn
def mSize (m : Msg) : Nat := mBase m + 24 * sumN m.pn m.hn

theorem ret_int {k : IntKind} {a b : Int} (h : a = b) : Ending.returned (.int k a) = .returned (.int k b) := by rw [h]

set_option maxHeartbeats 1000000 in
theorem msgBytes_any (b o : Nat) (m : Msg) (w : World) (h : IsMsg w b o m) :
    Calls Try.prog 13 #[.pointer (some ⟨b, o, none⟩)] w fun e w' => ∃ B : Int, e = .returned (.int .i64 B) ∧ 0 ≤ B ∧ B ≤ 1048577 ∧ (B ≤ 1048576 → B = mSize m) ∧ ∃ q, w.drewN q = w' := by
  obtain ⟨c0, c1, c2, c3, c4, c5, c6, c7, rows, vl, sh, hh, ph⟩ := h
  obtain ⟨_, hrow, _⟩ := rows
  clear c0 c1 c2 c3 c5
  obtain ⟨SZ, HSZ⟩ : ∃ SZ, Hid (SZ = mSize m) := ⟨_, rfl⟩
  rw [← HSZ.out]
  obtain ⟨B0, HB0⟩ : ∃ B0, Hid (B0 = mBase m) := ⟨_, rfl⟩
  have HB1 : Hid (B0 = m.val.size + 24 * m.sn + 48 * m.hn) := HB0
  have HB2 : Hid (SZ = B0 + 24 * sumN m.pn m.hn) := by show _ = _; rw [HSZ.out, HB0.out]; rfl
  clear HSZ HB0
  obtain ⟨frm, dst, rnd, num, val, stamp, sa, sn, sc, SA, SR, SP, ha, hn, hc, HA, HN, HS, pa, pn, pc, PA, PN, PS⟩ := m
  dsimp only at c4 c6 c7 hrow vl sh hh ph HB1 HB2
  by_cases h1 : 1048576 < val.size
  · have h1' : (1048576 : Int) < (val.size : Int) := by omega
    go_enter Try.func13, Try.ntmps13
    go_wp2
    go_ret
    exact ⟨_, rfl, by omega, by omega, by omega, 0, rfl⟩
  by_cases h2 : 1048576 < sn
  · have h1' : (val.size : Int) ≤ 1048576 := by omega
    have h2' : (1048576 : Int) < (sn : Int) := by omega
    go_enter Try.func13, Try.ntmps13
    go_wp2
    go_ret
    exact ⟨_, rfl, by omega, by omega, by omega, 0, rfl⟩
  by_cases h3 : 1048576 < hn
  · have h1' : (val.size : Int) ≤ 1048576 := by omega
    have h2' : (sn : Int) ≤ 1048576 := by omega
    have h3' : (1048576 : Int) < (hn : Int) := by omega
    go_enter Try.func13, Try.ntmps13
    go_wp2
    go_ret
    exact ⟨_, rfl, by omega, by omega, by omega, 0, rfl⟩
  have h1' : (val.size : Int) ≤ 1048576 := by omega
  have h2' : (sn : Int) ≤ 1048576 := by omega
  have h3' : (hn : Int) ≤ 1048576 := by omega
  go_enter Try.func13, Try.ntmps13
  go_wp2
  go_quiet (fail)
  go_wp2
  go_loopw [3, 4] (fun s i wr => ∃ k q S : Nat, k ≤ hn ∧ i = .int .i64 k ∧ s = .int .i64 S ∧ S ≤ 104857600 ∧ wr = w.drewN q ∧ Hid (S = B0 + 24 * sumN pn k)) (fun _ i _ => hn - (intOf i).toNat)
  case atStart => exact ⟨0, _, val.size + 24 * sn + 48 * hn, Nat.zero_le _, rfl, by go_num, by omega, rfl, by show _ = _; rw [HB1.out]; rfl⟩
  case round =>
    obtain ⟨k, q, S, hk, rfl, rfl, hbd, rfl, HS1⟩ := hrel
    have hsum : Hid (S + 24 * pn k = B0 + 24 * sumN pn (k + 1)) := by show _ = _; rw [sumN_succ, HS1.out]; omega
    have hend : Hid (k = hn → S = SZ) := by intro e; rw [HB2.out, HS1.out, e]
    by_cases hlt : k < hn
    · rcases hrow with hrow | ⟨hb, ho, rfl, hrow⟩
      · omega
      have g3 := (hrow k hlt).2.2.2
      have hli : (k : Int) < (hn : Int) := by omega
      clear hrow
      by_cases t1 : 1048576 < S
      · have t1' : (1048576 : Int) < (S : Int) := by omega
        go_wp2
        go_ret
        exact ⟨_, rfl, by omega, by omega, by omega, q, rfl⟩
      · have t1' : (S : Int) ≤ 1048576 := by omega
        by_cases t2 : 1048576 < pn k
        · have t2' : (1048576 : Int) < (pn k : Int) := by omega
          go_wp2
          go_ret
          exact ⟨_, rfl, by omega, by omega, by omega, q, rfl⟩
        · have t2' : (pn k : Int) ≤ 1048576 := by omega
          go_wp2
          go_roundw
          case rel => exact ⟨k + 1, q, S + 24 * pn k, by omega, by go_num, by go_num, by omega, rfl, hsum⟩
          case measure => simp [intOf]; omega
    · by_cases t1 : 1048576 < S
      · have t1' : (1048576 : Int) < (S : Int) := by omega
        go_wp2
        go_ret
        exact ⟨_, rfl, by omega, by omega, by omega, q, rfl⟩
      · have t1' : (S : Int) ≤ 1048576 := by omega
        go_wp2
        go_ret
        exact ⟨_, rfl, by omega, by omega, by have := hend.out (by omega); omega, q, rfl⟩
end Go.Proofs.Qxb6605338a
