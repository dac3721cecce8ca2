/-
  Seat b6003639a. 'uvFits' (10): does byte c fit at position j?
-/
import Derived.Test.Qxb6003639aOwn
import Derived.BigRegion
import Derived.RegionTactic
namespace Go.Proofs.Qxb6003639a
open Go.RowKit
set_option linter.unusedVariables false

theorem Try.info5 : (Try.prog.info? 5).map (fun i => (i.zero, i.size, i.bytes)) = some (some (.int .u8 0), 1, 1) := by kernel_rfl
theorem make25 (n : Nat) (hn : n ≤ 1048576) (w : World) : (Instr.makeSlice 25 (.int .i64 n) (.int .i64 n)).run Try.prog w = .ok (.slice (some ⟨w.heap.size, 0, none⟩) n n) (w.alloc (.cells (madeCells #[.int .u8 0] n) 5)) :=
  run_make_row' (P := Try.prog) 25 5 (.int .u8 0) 1 Try.underlying25 Try.info5 rfl .i64 .i64 n (by omega) (by omega) w
theorem make25_36 (w : World) : (Instr.makeSlice 25 (.int .i64 36) (.int .i64 36)).run Try.prog w = .ok (.slice (some ⟨w.heap.size, 0, none⟩) 36 36) (w.alloc (.cells (madeCells #[.int .u8 0] 36) 5)) := make25 36 (by omega) w

theorem valid_any (s : ByteArray) (w : World) : Calls Try.prog 6 #[.string s] w fun e w' => e = .returned (.bool (validB s)) ∧ w = w' := by
  by_cases h : s.size = 36
  · exact valid_36 s w h _ (by unfold validB; rw [decide_eq_true h]; rfl)
  · refine (valid_len s w h).mono ?_
    rintro e w' ⟨rfl, rfl⟩
    exact ⟨ret_bool (by unfold validB; rw [decide_eq_false h]; rfl), rfl⟩

theorem fits_out (j c : Int) (h : j < 0 ∨ 36 ≤ j) (w : World) : Calls Try.prog 10 #[.int .i64 j, .int .u8 c] w fun e w' => e = .returned (.bool false) ∧ w = w' := by
  rcases h with h | h
  all_goals
    go_enter Try.func10, Try.ntmps10
    go_wp2
    go_ret
    exact ⟨rfl, rfl⟩

/-- The template. -/
theorem tpl_at (k : Nat) (hk : k < 36) : (((#[48, 48, 48, 48, 48, 48, 48, 48, 45, 48, 48, 48, 48, 45, 55, 48, 48, 48, 45, 56, 48, 48, 48, 45, 48, 48, 48, 48, 48, 48, 48, 48, 48, 48, 48, 48] : Array UInt8)[k]'hk).toNat : Int) = tp k := by
  have : ∀ k : Fin 36, (((#[48, 48, 48, 48, 48, 48, 48, 48, 45, 48, 48, 48, 48, 45, 55, 48, 48, 48, 45, 56, 48, 48, 48, 45, 48, 48, 48, 48, 48, 48, 48, 48, 48, 48, 48, 48] : Array UInt8)[k.1]'k.2).toNat : Int) = tp k.1 := by decide
  exact this ⟨k, hk⟩

set_option maxRecDepth 100000 in
set_option maxHeartbeats 4000000 in
theorem fits_in (j : Nat) (hj : j < 36) (c : Int) (h0 : 0 ≤ c) (h1 : c ≤ 255) (w : World) :
    Calls Try.prog 10 #[.int .i64 j, .int .u8 c] w fun e w' => e = .returned (.bool (okB j c)) ∧ Below w.heap.size w w' := by
  have mk36 := make25_36
  go_enter Try.func10, Try.ntmps10
  go_wp2
  go_loopw [6] (fun i wr => ∃ k : Nat, k ≤ 36 ∧ i = .int .i64 k ∧ Hid (LoopB w wr 36 k tp)) (fun i _ => 36 - (intOf i).toNat)
  case atStart => exact ⟨0, by omega, rfl, LoopB.start w 36 tp _ (by simp [size_madeCells])⟩
  case round =>
    obtain ⟨k, hk, rfl, HL⟩ := hrel
    clear mk36
    by_cases hlt : k < 36
    · obtain ⟨v, hv⟩ := HL.out.cell hlt
      have hfr := HL.out.frozen k
      go_wp2
      go_round
      case rel => exact ⟨k + 1, by omega, by go_num, HL.out.step _ (tpl_at k hlt)⟩
      case measure => simp [intOf]; omega
    · have hke : k = 36 := by omega
      subst hke
      obtain ⟨v, hv⟩ := HL.out.cell hj
      have hfr := HL.out.frozen j
      have HT : Hid (LoopB w (wr.setCell ⟨w.heap.size, j, none⟩ (.int .u8 c)) 36 36 (turn tp j c)) := loopB_turn HL.out j c
      have hcv := loopB_conv HT.out (turn_bytes (tp_bytes 36) j h0 h1) 36
      go_wp2_with fail
      refine (valid_any _ _).mono ?_
      rintro e w' ⟨rfl, rfl⟩
      go_wp2
      go_ret
      exact ⟨ret_bool (valid_fits hj h0 h1), HT.out.bel⟩
end Go.Proofs.Qxb6003639a
