/-
  Seat b6605338a. 'heardModel' (24), 'allowedHeard' (27).
-/
import Derived.Test.Qxb6605338aRecWalk
import Derived.Test.Qxb6605338aStatPlain
namespace Go.Proofs.Qxb6605338a
open Go.RowKit
set_option linter.unusedVariables false

theorem eql70 (w : World) (a : Option Addr) (n c n' c' : Nat) : (binOp .eql 70 (.slice a n c) (.slice none n' c')).run Try.prog w = .ok (.bool a.isNone) w := Lib.run_eql_slice_nil w _ _ a n c n' c' Try.underlying70

theorem ret_bool {a b : Bool} (h : a = b) : Ending.returned (.bool a) = .returned (.bool b) := by rw [h]

set_option maxRecDepth 100000 in
set_option maxHeartbeats 2000000 in
theorem heardModel_any (n rnd A N S : Int) (pa : Option Addr) (pn pc : Nat) (PA PN PS : Nat → Int) (w : World) (h : Row3 .i64 .u64 .u64 w pa pn PA PN PS) (hpn : pn ≤ 1048576) (r : Bool) (hr : r = hm n (wrap64 (rnd - 1)) A S pa.isNone pn PA PS) :
    Calls Try.prog 24 #[.int .i64 n, .int .i64 rnd, .agg #[.int .i64 A, .int .u64 N, .int .u64 S, .slice pa pn pc]] w fun e w' => e = .returned (.bool r) ∧ Below w.heap.size w w' := by
  have H := hide h
  have HR := hide hr
  clear h hr
  by_cases hs1 : wrap64 (rnd - 1) = 1
  · have HR2 : Hid (r = pa.isNone) := by show _ = _; rw [HR.out]; simp [hm, hs1]
    have q1 := eql70
    have hs1' : (wrap64 (rnd - 1) == 1) = true := by simp [hs1]
    clear hs1
    go_enter Try.func24, Try.ntmps24
    go_wp2
    go_ret
    exact ⟨ret_bool HR2.out.symm, (Below.refl _ _).alloc (Nat.le_refl _) _⟩
  have hs1' : (wrap64 (rnd - 1) == 1) = false := by simp [hs1]
  by_cases hs2 : S ≠ 0
  · have HF : Hid (r = false) := by show _ = _; rw [HR.out]; simp [hm, hs1, hs2]
    have hs2' : (S == 0) = false := by simp [hs2]
    clear hs1 hs2
    go_enter Try.func24, Try.ntmps24
    go_wp2
    go_ret
    exact ⟨ret_bool HF.out.symm, (Below.refl _ _).alloc (Nat.le_refl _) _⟩
  have hS0 : S = 0 := by omega
  subst hS0
  have HA : Hid (r = allB (hmOk n A (wrap64 (rnd - 1)) PA PS) pn) := by show _ = _; rw [HR.out]; simp [hm, hs1]
  clear hs1 hs2 HR
  go_enter Try.func24, Try.ntmps24
  go_wp2
  go_loop [8] (fun i => ∃ k : Nat, k ≤ pn ∧ i = .int .i64 k ∧ Hid (allB (hmOk n A (wrap64 (rnd - 1)) PA PS) k = true)) (fun i => pn - (intOf i).toNat)
  case atStart => exact ⟨0, Nat.zero_le _, rfl, rfl⟩
  case round =>
    obtain ⟨k, hk, rfl, HK⟩ := hrel
    by_cases hlt : k < pn
    · rcases H.out with h0 | ⟨b, o, rfl, hrow⟩
      · omega
      have hli : (k : Int) < (pn : Int) := by omega
      obtain ⟨r0, r1, r2⟩ := hrow k hlt
      have hbl : b < w.heap.size := World.block_lt_of_cell? w _ r0
      have HROW := hide hrow
      clear hrow
      cases hok : hmOk n A (wrap64 (rnd - 1)) PA PS k with
      | false =>
        have HF : Hid (r = false) := HA.out.trans (allB_false hlt hok)
        have HOK := hide hok
        clear hok
        by_cases t1 : PA k < 0
        · go_wp2
          go_ret
          exact ⟨ret_bool HF.out.symm, (Below.refl _ _).alloc (Nat.le_refl _) _⟩
        by_cases t2 : n ≤ PA k
        · go_wp2
          go_ret
          exact ⟨ret_bool HF.out.symm, (Below.refl _ _).alloc (Nat.le_refl _) _⟩
        by_cases t3 : PA k = A
        · have t3' : (PA k == A) = true := by simp [t3]
          clear t3
          go_wp2
          go_ret
          exact ⟨ret_bool HF.out.symm, (Below.refl _ _).alloc (Nat.le_refl _) _⟩
        have t3' : (PA k == A) = false := by simp [t3]
        by_cases t4 : k = 0
        · have t5 : 2 < wrap64 (rnd - 1) ∧ PS k ≠ 0 := by
            have := HOK.out; simp only [hmOk, decide_eq_false_iff_not] at this; omega
          obtain ⟨t5, t6⟩ := t5
          have t6' : (PS k == 0) = false := by simp [t6]
          clear t3 t6
          subst t4
          simp only [Nat.zero_mul, Nat.add_zero] at r0 r1 r2
          go_wp2
          go_ret
          exact ⟨ret_bool HF.out.symm, (Below.refl _ _).alloc (Nat.le_refl _) _⟩
        · obtain ⟨k', rfl⟩ : ∃ k', k = k' + 1 := ⟨k - 1, by omega⟩
          obtain ⟨s0, _, _⟩ := HROW.out k' (by omega)
          by_cases t7 : PA (k' + 1) ≤ PA k'
          · clear t3
            go_wp2
            go_ret
            exact ⟨ret_bool HF.out.symm, (Below.refl _ _).alloc (Nat.le_refl _) _⟩
          · have t5 : 2 < wrap64 (rnd - 1) ∧ PS (k' + 1) ≠ 0 := by
              have := HOK.out; simp only [hmOk, decide_eq_false_iff_not, Nat.add_sub_cancel] at this; omega
            obtain ⟨t5, t6⟩ := t5
            have t6' : (PS (k' + 1) == 0) = false := by simp [t6]
            clear t3 t6
            go_wp2
            go_ret
            exact ⟨ret_bool HF.out.symm, (Below.refl _ _).alloc (Nat.le_refl _) _⟩
      | true =>
        have HI : Hid (allB (hmOk n A (wrap64 (rnd - 1)) PA PS) (k + 1) = true) := by show _ = _; rw [allB_succ, HK.out, hok]; rfl
        simp only [hmOk, decide_eq_true_eq] at hok
        obtain ⟨t1, t2, t3, t4, t5⟩ := hok
        have t3' : (PA k == A) = false := by simp [t3]
        by_cases u1 : 2 < wrap64 (rnd - 1)
        · have t6 : (PS k == 0) = true := by simp; omega
          clear t3 t5
          rcases t4 with t4 | t4
          · subst t4
            simp only [Nat.zero_mul, Nat.add_zero] at r0 r1 r2
            go_wp2
            go_round
            case rel => exact ⟨1, by omega, by go_num, HI⟩
            case measure => simp [intOf]; omega
          · by_cases u2 : k = 0
            · subst u2; simp at t4
            obtain ⟨k', rfl⟩ : ∃ k', k = k' + 1 := ⟨k - 1, by omega⟩
            rw [Nat.add_sub_cancel] at t4
            obtain ⟨s0, _, _⟩ := HROW.out k' (by omega)
            go_wp2
            go_round
            case rel => exact ⟨k' + 1 + 1, by omega, by go_num, HI⟩
            case measure => simp [intOf]; omega
        · clear t3 t5
          rcases t4 with t4 | t4
          · subst t4
            simp only [Nat.zero_mul, Nat.add_zero] at r0 r1 r2
            go_wp2
            go_round
            case rel => exact ⟨1, by omega, by go_num, HI⟩
            case measure => simp [intOf]; omega
          · by_cases u2 : k = 0
            · subst u2; simp at t4
            obtain ⟨k', rfl⟩ : ∃ k', k = k' + 1 := ⟨k - 1, by omega⟩
            rw [Nat.add_sub_cancel] at t4
            obtain ⟨s0, _, _⟩ := HROW.out k' (by omega)
            go_wp2
            go_round
            case rel => exact ⟨k' + 1 + 1, by omega, by go_num, HI⟩
            case measure => simp [intOf]; omega
    · have hke : k = pn := by omega
      subst hke
      go_wp2
      go_ret
      exact ⟨ret_bool (HA.out.trans HK.out).symm, (Below.refl _ _).alloc (Nat.le_refl _) _⟩

theorem eql40 (w : World) (a : Option Addr) (n c n' c' : Nat) : (binOp .eql 40 (.slice a n c) (.slice none n' c')).run Try.prog w = .ok (.bool a.isNone) w := Lib.run_eql_slice_nil w _ _ a n c n' c' Try.underlying40

/-- What the walk reads of the agent behind the receiver. -/
structure IsAgent (w : World) (g : Nat) (n id rnd : Int) : Prop where
  c0 : w.cell? ⟨g, 0, none⟩ = some (.int .i64 n)
  c2 : w.cell? ⟨g, 2, none⟩ = some (.int .i64 id)
  c13 : w.cell? ⟨g, 13, none⟩ = some (.int .i64 rnd)
theorem IsAgent.keep {W w' : World} (hb : Below W.heap.size W w') {g : Nat} {n id rnd : Int} (h : IsAgent W g n id rnd) : IsAgent w' g n id rnd :=
  ⟨Qxb6605338a.keep hb h.c0, Qxb6605338a.keep hb h.c2, Qxb6605338a.keep hb h.c13⟩

theorem lastP_succ (PA : Nat → Int) (k : Nat) : lastP PA (k + 1) = PA k := by simp [lastP]

set_option maxRecDepth 100000 in
set_option maxHeartbeats 2000000 in
theorem allowedHeard_any (g : Nat) (n id rnd A N S : Int) (pa : Option Addr) (pn pc : Nat) (PA PN PS : Nat → Int) (w : World) (hag : IsAgent w g n id rnd) (h : Row3 .i64 .u64 .u64 w pa pn PA PN PS) (hpn : pn ≤ 1048576) (r : Bool) (hr : r = hm n (wrap64 (rnd - 1)) A S pa.isNone pn PA PS) :
    Calls Try.prog 27 #[.pointer (some ⟨g, 0, none⟩), .agg #[.int .i64 A, .int .u64 N, .int .u64 S, .slice pa pn pc]] w fun e w' => e = .returned (.bool r) ∧ Below w.heap.size w w' := by
  have H := hide h
  have HR := hide hr
  have HAG := hide hag
  obtain ⟨a0, _, a13⟩ := hag
  have hgl : g < w.heap.size := World.block_lt_of_cell? w _ a0
  clear h hr
  by_cases hs1 : wrap64 (rnd - 1) = 1
  · have HR2 : Hid (r = pa.isNone) := by show _ = _; rw [HR.out]; simp [hm, hs1]
    have q1 := eql40
    have hs1' : (wrap64 (rnd - 1) == 1) = true := by simp [hs1]
    clear hs1
    go_enter Try.func27, Try.ntmps27
    go_wp2
    go_ret
    exact ⟨ret_bool HR2.out.symm, (Below.refl _ _).alloc (Nat.le_refl _) _⟩
  have hs1' : (wrap64 (rnd - 1) == 1) = false := by simp [hs1]
  by_cases hs2 : S ≠ 0
  · have HF : Hid (r = false) := by show _ = _; rw [HR.out]; simp [hm, hs1, hs2]
    have hs2' : (S == 0) = false := by simp [hs2]
    clear hs1 hs2
    go_enter Try.func27, Try.ntmps27
    go_wp2
    go_ret
    exact ⟨ret_bool HF.out.symm, (Below.refl _ _).alloc (Nat.le_refl _) _⟩
  have hS0 : S = 0 := by omega
  subst hS0
  have HA : Hid (r = allB (ahOk n A (wrap64 (rnd - 1)) PA PS) pn) := by show _ = _; rw [HR.out, ah_hm]; simp [hm, hs1]
  clear hs1 hs2 HR
  go_enter Try.func27, Try.ntmps27
  go_wp2
  clear a0 a13 hgl
  go_loopw [6, 26] (fun l i wr => ∃ k : Nat, k ≤ pn ∧ i = .int .i64 k ∧ l = .int .i64 (lastP PA k) ∧ Hid (allB (ahOk n A (wrap64 (rnd - 1)) PA PS) k = true) ∧ Hid (Below (w.heap.size + 1) (w.alloc (.cells #[.int .i64 A, .int .u64 N, .int .u64 0, .slice pa pn pc] 42)) wr)) (fun _ i _ => pn - (intOf i).toNat)
  case atStart => exact ⟨0, Nat.zero_le _, rfl, rfl, rfl, Below.refl _ _⟩
  case round =>
    obtain ⟨k, hk, rfl, rfl, HK, HB⟩ := hrel
    have hbw : Below w.heap.size w wr := ((Below.refl _ _).alloc (Nat.le_refl _) _).trans (HB.out.mono (by omega))
    by_cases hlt : k < pn
    · rcases H.out with h0 | ⟨b, o, rfl, hrow⟩
      · omega
      have hli : (k : Int) < (pn : Int) := by omega
      obtain ⟨q0, q1, q2⟩ := hrow k hlt
      have r0 := keep hbw q0
      have r1 := keep hbw q1
      have r2 := keep hbw q2
      have hbl : b < wr.heap.size := World.block_lt_of_cell? wr _ r0
      have y0 : wr.cell? ⟨w.heap.size, 0, none⟩ = some (.int .i64 A) := by rw [HB.out.cell (p := ⟨w.heap.size, 0, none⟩) (Nat.lt_succ_self _)]; simp
      have hwl : w.heap.size < wr.heap.size := World.block_lt_of_cell? wr _ y0
      have a0 := keep hbw HAG.out.c0
      have hgl : g < wr.heap.size := World.block_lt_of_cell? wr _ a0
      have HB2 : Hid (Below (w.heap.size + 1) (w.alloc (.cells #[.int .i64 A, .int .u64 N, .int .u64 0, .slice (some ⟨b, o, none⟩) pn pc] 42)) (wr.alloc (.cells #[.int .i64 (PA k), .int .u64 (PN k), .int .u64 (PS k)] 39))) := HB.out.alloc hwl _
      have HW2 := hide (hbw.alloc hbw.size (.cells #[.int .i64 (PA k), .int .u64 (PN k), .int .u64 (PS k)] 39))
      have HL : Hid (lastP PA (k + 1) = PA k) := lastP_succ PA k
      clear hrow q0 q1 q2 hbw
      cases hok : ahOk n A (wrap64 (rnd - 1)) PA PS k with
      | false =>
        have HF : Hid (r = false) := HA.out.trans (allB_false hlt hok)
        have HOK := hide hok
        clear hok
        by_cases t1 : PA k ≤ lastP PA k
        · have t1' : decide (PA k ≤ lastP PA k) = true := by simp [t1]
          go_wp2
          go_quiet (fail)
          go_wp2
          go_ret
          exact ⟨ret_bool HF.out.symm, below_drewN HW2.out _⟩
        have t1' : decide (PA k ≤ lastP PA k) = false := by simpa using t1
        by_cases t2 : n ≤ PA k
        · have t2' : decide (n ≤ PA k) = true := by simp [t2]
          go_wp2
          go_quiet (fail)
          go_wp2
          go_ret
          exact ⟨ret_bool HF.out.symm, below_drewN HW2.out _⟩
        have t2' : decide (n ≤ PA k) = false := by simpa using t2
        by_cases t3 : PA k = A
        · have t3' : (PA k == A) = true := by simp [t3]
          clear t3
          go_wp2
          go_quiet (fail)
          go_wp2
          go_ret
          exact ⟨ret_bool HF.out.symm, below_drewN HW2.out _⟩
        have t3' : (PA k == A) = false := by simp [t3]
        have t5 : 2 < wrap64 (rnd - 1) ∧ PS k ≠ 0 := by
          have := HOK.out; simp only [ahOk, decide_eq_false_iff_not] at this; omega
        obtain ⟨t5, t6⟩ := t5
        have t6' : (PS k == 0) = false := by simp [t6]
        have t5' : decide (2 < wrap64 (rnd - 1)) = true := by simp [t5]
        clear t3 t6
        go_wp2
        go_quiet (fail)
        go_wp2
        go_ret
        exact ⟨ret_bool HF.out.symm, below_drewN HW2.out _⟩
      | true =>
        have HI : Hid (allB (ahOk n A (wrap64 (rnd - 1)) PA PS) (k + 1) = true) := by show _ = _; rw [allB_succ, HK.out, hok]; rfl
        simp only [ahOk, decide_eq_true_eq] at hok
        obtain ⟨t1, t2, t3, t5⟩ := hok
        have t1' : decide (PA k ≤ lastP PA k) = false := by simp; omega
        have t2' : decide (n ≤ PA k) = false := by simp; omega
        have t3' : (PA k == A) = false := by simp [t3]
        by_cases u1 : 2 < wrap64 (rnd - 1)
        · have t6 : (PS k == 0) = true := by simp; omega
          have u1' : decide (2 < wrap64 (rnd - 1)) = true := by simp [u1]
          clear t3 t5
          go_wp2
          go_quiet (fail)
          go_wp2
          go_roundw
          case rel => exact ⟨k + 1, by omega, by go_num, by rw [HL.out], HI, below_drewN HB2.out _⟩
          case measure => simp [intOf]; omega
        · have u1' : decide (2 < wrap64 (rnd - 1)) = false := by simpa using u1
          clear t3 t5
          go_wp2
          go_quiet (fail)
          go_wp2
          go_roundw
          case rel => exact ⟨k + 1, by omega, by go_num, by rw [HL.out], HI, below_drewN HB2.out _⟩
          case measure => simp [intOf]; omega
    · have hke : k = pn := by omega
      subst hke
      go_wp2
      go_ret
      exact ⟨ret_bool (HA.out.trans HK.out).symm, hbw⟩
end Go.Proofs.Qxb6605338a
