/-
  Seat b6003639a. The walk of FnValidIsPositionLocal (4).
-/
import Derived.Test.Qxb6003639aRepair
namespace Go.Proofs.Qxb6003639a
open Go.RowKit
set_option linter.unusedVariables false

theorem fits_any (j : Nat) (c : Int) (h0 : 0 ≤ c) (h1 : c ≤ 255) (w : World) :
    Calls Try.prog 10 #[.int .i64 j, .int .u8 c] w fun e w' => e = .returned (.bool (fits j c)) ∧ Below w.heap.size w w' := by
  by_cases hj : j < 36
  · refine (fits_in j hj c h0 h1 w).mono ?_
    rintro e w' ⟨rfl, hb⟩
    exact ⟨ret_bool (by unfold fits; rw [decide_eq_true hj]; rfl), hb⟩
  · refine (fits_out j c (.inr (by omega)) w).mono ?_
    rintro e w' ⟨rfl, rfl⟩
    exact ⟨ret_bool (by unfold fits; rw [decide_eq_false hj]; rfl), Below.refl _ _⟩

theorem toList_beq {a b : ByteArray} {v : Bool} (h : v = true ↔ a = b) : (a.toList == b.toList) = v := by
  have inj : a.toList = b.toList ↔ a = b := by
    constructor
    · intro e
      have e' : a.data.toList = b.data.toList := by simpa [ByteArray.toList_eq] using e
      exact ByteArray.ext (Array.toList_inj.1 e')
    · rintro rfl; rfl
  cases v with
  | true => exact beq_iff_eq.2 (inj.2 (h.1 rfl))
  | false => exact beq_eq_false_iff_ne.2 fun e => by simpa using h.2 (inj.1 e)

set_option maxRecDepth 100000 in
set_option maxHeartbeats 4000000 in
theorem walk4 (s : ByteArray) (a1 a2 : Int) (h0 : 0 ≤ a2) (h1 : a2 ≤ 255) (w : World) :
    Calls Try.prog 4 #[.string s, .int .i64 a1, .int .u8 a2] w fun e w' => e = .returned (.bool true) ∧ Below w.heap.size w w' := by
  by_cases c1 : ¬ s.size ≤ 1048576
  · go_enter Try.func4, Try.ntmps4
    go_wp2_with fail
    refine (bytes8_no s a1 a2 c1 _).mono ?_
    rintro e w' ⟨rfl, rfl⟩
    go_wp2
    go_ret
    exact ⟨rfl, Below.refl _ _⟩
  replace c1 := Decidable.not_not.1 c1
  by_cases c2 : ¬ s.size ≤ 65536
  · have c2' : (65536 : Int) < s.size := by omega
    go_enter Try.func4, Try.ntmps4
    go_wp2_with fail
    refine (bytes8_yes s a1 a2 c1 _).mono ?_
    rintro e w' ⟨rfl, rfl⟩
    go_wp2
    go_ret
    exact ⟨rfl, Below.refl _ _⟩
  have c2' : (s.size : Int) ≤ 65536 := by omega
  go_enter Try.func4, Try.ntmps4
  go_wp2_with fail
  refine (bytes8_yes s a1 a2 c1 _).mono ?_
  rintro e w' ⟨rfl, rfl⟩
  go_wp2_with fail
  refine (repair s _).mono ?_
  rintro e w1 ⟨rfl, hb1⟩
  have HB1 := hide hb1
  clear hb1
  have HV := hide (valid_rp s)
  have HSF := hide (valid_self s)
  generalize mk 36 (rp s) = r at *
  go_wp2_with fail
  refine (valid_any r _).mono ?_
  rintro e w' ⟨rfl, rfl⟩
  rw [HV.out]
  go_wp2_with fail
  refine (valid_any s _).mono ?_
  rintro e w' ⟨rfl, rfl⟩
  have hq := toList_beq HSF.out
  clear HSF HV
  have HL1 := hide (law1 s)
  have HL2 := hide (law2 s)
  have HL3 := hide (law3 s)
  generalize validB s = v at *
  by_cases c3 : 0 ≤ a1 ∧ a1 < s.size
  · obtain ⟨i, rfl⟩ : ∃ i : Nat, a1 = i := ⟨a1.toNat, by omega⟩
    have hi : i < s.size := by omega
    clear c3
    have hmk := make25 s.size c1
    have hvv : (v != (s.toList == r.toList)) = false := by rw [hq]; simp
    go_wp2_with fail
    have hdc : decide ((65536 : Int) < s.size) = false := decide_eq_false (by omega)
    rw [hdc]
    clear hmk hdc hvv hq
    go_loopw [10] (fun q wr => ∃ k : Nat, k ≤ s.size ∧ q = .int .i64 k ∧ Hid (LoopB w1 wr s.size k (bt s))) (fun q _ => s.size - (intOf q).toNat)
    case atStart => exact ⟨0, by omega, rfl, LoopB.start w1 s.size _ _ (by simp [size_madeCells])⟩
    case round =>
      obtain ⟨k, hk, rfl, HL⟩ := hrel
      by_cases hlt : k < s.size
      · obtain ⟨x, hx⟩ := HL.out.cell hlt
        have hfr := HL.out.frozen k
        have HS := hide (bt_at s k hlt)
        go_wp2
        go_round
        case rel => exact ⟨k + 1, by omega, by go_num, HL.out.step _ HS.out⟩
        case measure => simp [intOf]; omega
      · have hke : k = s.size := by omega
        subst hke
        obtain ⟨x, hx⟩ := HL.out.cell hi
        have hfr := HL.out.frozen i
        have HT : Hid (LoopB w1 (wr.setCell ⟨w1.heap.size, i, none⟩ (.int .u8 a2)) s.size s.size (turn (bt s) i a2)) := loopB_turn HL.out i a2
        have hcv := loopB_conv HT.out (turn_bytes (bt_bytes s _) i h0 h1) s.size
        have HM1 := hide (HL1.out i hi a2 h0 h1)
        have HM2 := hide (HL2.out i hi a2 h0 h1)
        have HM3 := hide (HL3.out i hi a2 h0 h1)
        clear HL1 HL2 HL3
        generalize mk s.size (turn (bt s) i a2) = tt at *
        go_wp2_with fail
        refine (valid_any tt _).mono ?_
        rintro e w' ⟨rfl, rfl⟩
        have HBB : Hid (Below w.heap.size w (wr.setCell ⟨w1.heap.size, i, none⟩ (.int .u8 a2))) := HB1.out.trans (HT.out.bel.mono HB1.out.size)
        clear hcv hx hfr HT HL
        generalize validB tt = vt at *
        generalize wr.setCell ⟨w1.heap.size, i, none⟩ (.int .u8 a2) = w2 at *
        go_wp2_with fail
        refine (fits_any i a2 h0 h1 _).mono ?_
        rintro e w3 ⟨rfl, hb3⟩
        have HB3 : Hid (Below w.heap.size w w3) := HBB.out.trans (hb3.mono HBB.out.size)
        clear hb3 HBB
        have HS := hide (bt_at s i hi)
        have HBD := hide (bt_bd s i)
        go_wp2_with fail
        refine (fits_any i _ (by rw [HS.out]; exact HBD.out.1) (by rw [HS.out]; exact HBD.out.2) _).mono ?_
        rintro e w4 ⟨rfl, hb4⟩
        have HB4 : Hid (Below w.heap.size w w4) := HB3.out.trans (hb4.mono HB3.out.size)
        clear hb4 HB3
        rw [HS.out]
        generalize fits i (bt s i) = g1 at *
        generalize fits i a2 = fb at *
        have HM2' : ((s.size : Int) == 36) = true → fb = false → vt = false := fun h => HM2.out (by have := beq_iff_eq.1 h; omega)
        cases c36 : ((s.size : Int) == 36)
        all_goals
          have HC := hide c36
          cases v
          all_goals
            cases vt
            all_goals
              cases fb
              all_goals
                cases g1
                all_goals
                  first
                    | (exfalso; have hh := HM1.out rfl rfl; cases hh; done)
                    | (exfalso; have hh := HM3.out rfl; cases hh; done)
                    | (exfalso; have hh := HM2' HC.out rfl; cases hh; done)
                    | (clear HM1 HM2 HM3 HM2' HC
                       go_wp2
                       go_ret
                       exact ⟨rfl, HB4.out⟩)
  · have hvv : (v != (s.toList == r.toList)) = false := by rw [hq]; simp
    have c3' : a1 < 0 ∨ 0 ≤ a1 ∧ s.size ≤ a1 := by omega
    clear c3
    rcases c3' with c3 | ⟨c3, c4⟩
    all_goals
      go_wp2
      go_ret
      exact ⟨rfl, HB1.out⟩
end Go.Proofs.Qxb6003639a
