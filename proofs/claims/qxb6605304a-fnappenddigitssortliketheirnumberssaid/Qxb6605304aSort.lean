/-
  Seat b6605304a. 'lawDecimal' and 'lawCompareBytes' over rows that the call owns; the plain law: digits compare xs their numbers do.
-/
import Derived.Test.Qxb6605304aDigits
import Derived.Deep.QuietTactic
import Derived.BigQuiet
namespace Go.Proofs.Qxb6605304a
open Go.RowKit
set_option linter.unusedVariables false

/-! ### lawCompareBytes -/
def cmpL : List Int → List Int → Int
  | a :: xs, b :: ys => if a < b then -1 else if b < a then 1 else cmpL xs ys
  | _, _ => 0

theorem cmp_zero (a b : Option Addr) (c1 c2 : Nat) (w : World) :
    Calls Try.prog 11 #[.slice a 0 c1, .slice b 0 c2] w fun e w' => e = .returned (.int .i64 0) ∧ w = w' := by
  go_enter Try.func11, Try.ntmps11
  go_wp2
  refine wp_loop_rounds 1 ?_
  rw [rounds_succ]
  go_wp2
  go_ret
  exact ⟨rfl, rfl⟩

theorem cmp_drop (xs ys : List Int) (k : Nat) (h1 : k < xs.length) (h2 : k < ys.length) :
    cmpL (xs.drop k) (ys.drop k) = if xs[k] < ys[k] then -1 else if ys[k] < xs[k] then 1 else cmpL (xs.drop (k + 1)) (ys.drop (k + 1)) := by
  rw [List.drop_eq_getElem_cons h1, List.drop_eq_getElem_cons h2, cmpL]

theorem ret_int {k : IntKind} {a b : Int} (h : a = b) : Ending.returned (.int k a) = .returned (.int k b) := by rw [h]

theorem drewN2 (w : World) (a b : Nat) : w.drewN (a + b) = (w.drewN a).drewN b := by simp [World.drewN, Nat.add_assoc]

set_option maxHeartbeats 800000 in
theorem cmp_some (b1 b2 c1 c2 n : Nat) (xs ys : List Int) (w : World) (ha : xs.length = n) (hb : ys.length = n) (hl : n ≤ 4)
    (hc1 : ∀ j, j < n → w.cell? ⟨b1, 0 + j, none⟩ = some (.int .u8 (xs.getD j 0)))
    (hc2 : ∀ j, j < n → w.cell? ⟨b2, 0 + j, none⟩ = some (.int .u8 (ys.getD j 0))) :
    Calls Try.prog 11 #[.slice (some ⟨b1, 0, none⟩) n c1, .slice (some ⟨b2, 0, none⟩) n c2] w fun e w' => e = .returned (.int .i64 (cmpL xs ys)) ∧ ∃ q, w.drewN q = w' := by
  have HA : Hid (xs.length = n) := ha
  have HB : Hid (ys.length = n) := hb
  clear ha hb
  go_enter Try.func11, Try.ntmps11
  go_wp2
  go_loopw [6] (fun i wr => ∃ k q : Nat, k ≤ n ∧ i = .int .i64 k ∧ wr = w.drewN q ∧ Hid (cmpL xs ys = cmpL (xs.drop k) (ys.drop k))) (fun i _ => n - (intOf i).toNat)
  case atStart => exact ⟨0, 0, Nat.zero_le _, rfl, rfl, rfl⟩
  case round =>
    obtain ⟨k, q, hk, rfl, rfl, HC⟩ := hrel
    by_cases hlt : k < n
    · have h1 : k < xs.length := by rw [HA.out]; exact hlt
      have h2 : k < ys.length := by rw [HB.out]; exact hlt
      have g1 : w.cell? ⟨b1, k, none⟩ = some (.int .u8 xs[k]) := by have := hc1 k hlt; simp [h1] at this; exact this
      have g2 : w.cell? ⟨b2, k, none⟩ = some (.int .u8 ys[k]) := by have := hc2 k hlt; simp [h2] at this; exact this
      have HD : Hid (cmpL xs ys = if xs[k] < ys[k] then -1 else if ys[k] < xs[k] then 1 else cmpL (xs.drop (k + 1)) (ys.drop (k + 1))) := HC.out.trans (cmp_drop xs ys k h1 h2)
      clear hc1 hc2 HC
      have hli : (k : Int) < (n : Int) := by omega
      by_cases t1 : xs[k] < ys[k]
      · go_wp2
        go_quiet (fail)
        go_wp2
        go_ret
        exact ⟨ret_int (by rw [HD.out, if_pos (by omega)]), _, drewN2 _ _ _⟩
      · by_cases t2 : ys[k] < xs[k]
        · go_wp2
          go_quiet (fail)
          go_wp2
          go_quiet (fail)
          go_wp2
          go_ret
          exact ⟨ret_int (by rw [HD.out, if_neg (by omega), if_pos (by omega)]), _, (drewN2 _ _ _).trans (by rw [drewN2])⟩
        · go_wp2
          go_quiet (fail)
          go_wp2
          go_quiet (fail)
          go_wp2
          go_roundw
          case rel => exact ⟨k + 1, _, by omega, by go_num, rfl, by show _ = _; rw [HD.out, if_neg (by omega), if_neg (by omega)]⟩
          case measure => simp [intOf]; omega
    · go_wp2
      go_ret
      have e1 : xs.drop k = [] := List.drop_eq_nil_of_le (by rw [HA.out]; omega)
      exact ⟨ret_int (by rw [HC.out, e1]; rfl), _, rfl⟩
end Go.Proofs.Qxb6605304a
