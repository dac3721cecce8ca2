/-
  Seat b6003639a. 'uvRepair' (9) and 'zzBytes' (8).
-/
import Derived.Test.Qxb6003639aFits
namespace Go.Proofs.Qxb6003639a
open Go.RowKit
set_option linter.unusedVariables false

theorem bytes8_yes (s : ByteArray) (i b : Int) (h : s.size ≤ 1048576) (w : World) :
    Calls Try.prog 8 #[.string s, .int .i64 i, .int .u8 b] w fun e w' => e = .returned (.bool true) ∧ w = w' := by
  have h' : (s.size : Int) ≤ 1048576 := by omega
  go_enter Try.func8, Try.ntmps8
  go_wp2
  go_ret
  exact ⟨rfl, rfl⟩
theorem bytes8_no (s : ByteArray) (i b : Int) (h : ¬ s.size ≤ 1048576) (w : World) :
    Calls Try.prog 8 #[.string s, .int .i64 i, .int .u8 b] w fun e w' => e = .returned (.bool false) ∧ w = w' := by
  have h' : (1048576 : Int) < s.size := by omega
  go_enter Try.func8, Try.ntmps8
  go_wp2
  go_ret
  exact ⟨rfl, rfl⟩

set_option maxRecDepth 100000 in
set_option maxHeartbeats 4000000 in
theorem repair (s : ByteArray) (w : World) :
    Calls Try.prog 9 #[.string s] w fun e w' => e = .returned (.string (mk 36 (rp s))) ∧ Below w.heap.size w w' := by
  have mk36 := make25_36
  go_enter Try.func9, Try.ntmps9
  go_wp2
  go_loopw [4] (fun i wr => ∃ k : Nat, k ≤ 36 ∧ i = .int .i64 k ∧ Hid (LoopB w wr 36 k (rp s))) (fun i _ => 36 - (intOf i).toNat)
  case atStart => exact ⟨0, by omega, rfl, LoopB.start w 36 _ _ (by simp [size_madeCells])⟩
  case round =>
    obtain ⟨k, hk, rfl, HL⟩ := hrel
    clear mk36
    by_cases hlt : k < 36
    · by_cases hs : k < s.size
      · have HS := hide (bt_at s k hs)
        have HB := hide (bt_bd s k)
        go_wp2_with fail
        refine (fits_in k hlt _ (by rw [HS.out]; exact HB.out.1) (by rw [HS.out]; exact HB.out.2) _).mono ?_
        rintro e w' ⟨rfl, hbel⟩
        have HL' : Hid (LoopB w w' 36 k (rp s)) := HL.out.keep hbel
        clear hbel HL
        obtain ⟨v, hv⟩ := HL'.out.cell hlt
        have hfr := HL'.out.frozen k
        have hd : decide (k < s.size) = true := decide_eq_true hs
        cases hok : okB k (s[k].toNat : Int) with
        | true =>
          have hr := hide (rp_keep (s := s) (j := k) (by rw [hd, ← HS.out, hok]; rfl))
          clear hd
          go_wp2
          go_round
          case rel => exact ⟨k + 1, by omega, by go_num, HL'.out.step _ (HS.out.trans hr.out.symm)⟩
          case measure => simp [intOf]; omega
        | false =>
          have hr := hide (rp_tp (s := s) (j := k) (by rw [hd, ← HS.out, hok]; rfl))
          clear hd
          go_wp2
          go_round
          case rel => exact ⟨k + 1, by omega, by go_num, HL'.out.step _ ((tpl_at k hlt).trans hr.out.symm)⟩
          case measure => simp [intOf]; omega
      · obtain ⟨v, hv⟩ := HL.out.cell hlt
        have hfr := HL.out.frozen k
        have hr := hide (rp_tp (s := s) (j := k) (by rw [decide_eq_false hs]; rfl))
        go_wp2
        go_round
        case rel => exact ⟨k + 1, by omega, by go_num, HL.out.step _ ((tpl_at k hlt).trans hr.out.symm)⟩
        case measure => simp [intOf]; omega
    · have hke : k = 36 := by omega
      subst hke
      have hcv := loopB_conv HL.out (rp_bytes s 36) 36
      go_wp2
      go_ret
      exact ⟨rfl, HL.out.bel⟩
end Go.Proofs.Qxb6003639a
