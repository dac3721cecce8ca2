/-
  Seat b6003639a. 'uuidv7.Valid' (6): it decides position by position.
-/
import Derived.Test.Qxb6003639aRows
import Derived.WalkKit
import Derived.WalkSpells
import Derived.WalkSmall
namespace Go.Proofs.Qxb6003639a
open Go.RowKit
set_option linter.unusedVariables false

theorem hide {p : Prop} (h : p) : Hid p := h
theorem ret_bool {a b : Bool} (h : a = b) : Ending.returned (.bool a) = .returned (.bool b) := by rw [h]

def allB (f : Nat → Bool) : Nat → Bool
  | 0 => true
  | k + 1 => allB f k && f k
theorem allB_succ (f : Nat → Bool) (k : Nat) : allB f (k + 1) = (allB f k && f k) := rfl
theorem allB_iff {f : Nat → Bool} {n : Nat} : allB f n = true ↔ ∀ i, i < n → f i = true := by
  induction n with
  | zero => simp [allB]
  | succ n ih =>
    rw [allB_succ, Bool.and_eq_true, ih]
    constructor
    · rintro ⟨h1, h2⟩ i hi
      by_cases e : i = n
      · subst e; exact h2
      · exact h1 i (by omega)
    · intro h
      exact ⟨fun i hi => h i (by omega), h n (by omega)⟩
theorem allB_false {f : Nat → Bool} {k n : Nat} (hk : k < n) (h : f k = false) : allB f n = false := by
  cases e : allB f n with
  | false => rfl
  | true => rw [allB_iff] at e; rw [e k hk] at h; exact h

/-- May byte c stand at position i? -/
def okB (i : Nat) (c : Int) : Bool :=
  if i = 8 ∨ i = 13 ∨ i = 18 ∨ i = 23 then decide (c = 45)
  else if i = 14 then decide (c = 55)
  else if i = 19 then decide (c = 56 ∨ c = 57 ∨ c = 97 ∨ c = 98)
  else decide ((48 ≤ c ∧ c ≤ 57) ∨ (97 ≤ c ∧ c ≤ 102))

/-- The byte at i (0 beyond the end). -/
def bt (s : ByteArray) (i : Nat) : Int := ((s.data.toList.getD i 0).toNat : Int)
theorem bt_at (s : ByteArray) (i : Nat) (h : i < s.size) : (s[i].toNat : Int) = bt s i := by
  unfold bt
  have h' : i < s.data.toList.length := by simpa using h
  have : s.data.toList.getD i 0 = s[i] := by
    rw [List.getD_eq_getElem?_getD, List.getElem?_eq_getElem h']; rfl
  rw [this]
theorem bt_bd (s : ByteArray) (i : Nat) : 0 ≤ bt s i ∧ bt s i ≤ 255 := by
  unfold bt
  have := (s.data.toList.getD i 0).toNat_lt
  omega

def validB (s : ByteArray) : Bool := decide (s.size = 36) && allB (fun i => okB i (bt s i)) 36

theorem ok_dash {i : Nat} (h : i = 8 ∨ i = 13 ∨ i = 18 ∨ i = 23) (c : Int) : okB i c = decide (c = 45) := by simp only [okB, h, if_true]
theorem ok_seven (c : Int) : okB 14 c = decide (c = 55) := by simp [okB]
theorem ok_var (c : Int) : okB 19 c = decide (c = 56 ∨ c = 57 ∨ c = 97 ∨ c = 98) := by simp [okB]
theorem ok_hex {i : Nat} (h1 : ¬ (i = 8 ∨ i = 13 ∨ i = 18 ∨ i = 23)) (h2 : i ≠ 14) (h3 : i ≠ 19) (c : Int) : okB i c = decide ((48 ≤ c ∧ c ≤ 57) ∨ (97 ≤ c ∧ c ≤ 102)) := by simp only [okB, h1, h2, h3, if_false]

theorem valid_len (s : ByteArray) (w : World) (h : s.size ≠ 36) : Calls Try.prog 6 #[.string s] w fun e w' => e = .returned (.bool false) ∧ w = w' := by
  have h' : ((s.size : Int) == 36) = false := by simp; omega
  go_enter Try.func6, Try.ntmps6
  go_wp2
  go_ret
  exact ⟨rfl, rfl⟩

set_option maxRecDepth 100000 in
set_option maxHeartbeats 4000000 in
theorem valid_36 (s : ByteArray) (w : World) (h : s.size = 36) (r : Bool) (hr : r = allB (fun i => okB i (bt s i)) 36) : Calls Try.prog 6 #[.string s] w fun e w' => e = .returned (.bool r) ∧ w = w' := by
  have HR := hide hr
  have H := hide h
  clear hr
  have h1 : ((s.size : Int) == 36) = true := by simp; omega
  have hs36 : s.size ≤ 36 := by omega
  have hs36' : 36 ≤ s.size := by omega
  clear h
  go_enter Try.func6, Try.ntmps6
  go_wp2
  go_loop [10] (fun i => ∃ k : Nat, k ≤ 36 ∧ i = .int .i64 k ∧ Hid (allB (fun i => okB i (bt s i)) k = true)) (fun i => 36 - (intOf i).toNat)
  case atStart => exact ⟨0, by omega, rfl, rfl⟩
  case round =>
    obtain ⟨k, hk, rfl, HK⟩ := hrel
    by_cases hlt : k < 36
    · have hks : k < s.size := by omega
      have hb := bt_at s k hks
      have hbd := bt_bd s k
      rw [← hb] at hbd
      obtain ⟨hb0, hb1⟩ := hbd
      cases hok : okB k (bt s k) with
      | false =>
        have HF : Hid (r = false) := HR.out.trans (allB_false (f := fun i => okB i (bt s i)) hlt hok)
        rw [← hb] at hok
        clear hb
        by_cases c1 : k = 8 ∨ k = 13 ∨ k = 18 ∨ k = 23
        · rw [ok_dash c1] at hok
          have e1 : ((s[k].toNat : Int) == 45) = false := by simpa using hok
          clear hok
          rcases c1 with rfl | rfl | rfl | rfl
          all_goals
            go_wp2
            go_ret
            exact ⟨ret_bool HF.out.symm, rfl⟩
        · have d1 : ((k : Int) == 8) = false := by simp; omega
          have d2 : ((k : Int) == 13) = false := by simp; omega
          have d3 : ((k : Int) == 18) = false := by simp; omega
          have d4 : ((k : Int) == 23) = false := by simp; omega
          by_cases c2 : k = 14
          · subst c2
            rw [ok_seven] at hok
            have e1 : ((s[14].toNat : Int) == 55) = false := by simpa using hok
            clear hok
            go_wp2
            go_ret
            exact ⟨ret_bool HF.out.symm, rfl⟩
          · have d5 : ((k : Int) == 14) = false := by simp; omega
            by_cases c3 : k = 19
            · subst c3
              rw [ok_var] at hok
              simp only [decide_eq_false_iff_not, not_or] at hok
              obtain ⟨e1, e2, e3, e4⟩ := hok
              have e1' : ((s[19].toNat : Int) != 56) = true := by simpa using e1
              have e2' : ((s[19].toNat : Int) != 57) = true := by simpa using e2
              have e3' : ((s[19].toNat : Int) != 97) = true := by simpa using e3
              have e4' : ((s[19].toNat : Int) != 98) = true := by simpa using e4
              clear e1 e2 e3 e4
              go_wp2
              go_ret
              exact ⟨ret_bool HF.out.symm, rfl⟩
            · have d6 : ((k : Int) == 19) = false := by simp; omega
              rw [ok_hex c1 c2 c3] at hok
              have hok' : ((s[k].toNat : Int) ≤ 47) ∨ (58 ≤ (s[k].toNat : Int) ∧ (s[k].toNat : Int) ≤ 96) ∨ (103 ≤ (s[k].toNat : Int)) := by
                simp only [decide_eq_false_iff_not] at hok; omega
              clear hok c1
              rcases hok' with t | ⟨t, t'⟩ | t
              all_goals
                go_wp2
                go_ret
                exact ⟨ret_bool HF.out.symm, rfl⟩
      | true =>
        have HI : Hid (allB (fun i => okB i (bt s i)) (k + 1) = true) := by show _ = _; rw [allB_succ, HK.out, hok]; rfl
        rw [← hb] at hok
        clear hb
        by_cases c1 : k = 8 ∨ k = 13 ∨ k = 18 ∨ k = 23
        · rw [ok_dash c1] at hok
          have e1 : ((s[k].toNat : Int) == 45) = true := by simpa using hok
          clear hok
          rcases c1 with rfl | rfl | rfl | rfl
          all_goals
            go_wp2
            go_round
            case rel => exact ⟨_, by omega, by go_num, HI⟩
            case measure => simp [intOf]
        · have d1 : ((k : Int) == 8) = false := by simp; omega
          have d2 : ((k : Int) == 13) = false := by simp; omega
          have d3 : ((k : Int) == 18) = false := by simp; omega
          have d4 : ((k : Int) == 23) = false := by simp; omega
          by_cases c2 : k = 14
          · subst c2
            rw [ok_seven] at hok
            have e1 : ((s[14].toNat : Int) == 55) = true := by simpa using hok
            clear hok
            go_wp2
            go_round
            case rel => exact ⟨15, by omega, by go_num, HI⟩
            case measure => simp [intOf]
          · have d5 : ((k : Int) == 14) = false := by simp; omega
            by_cases c3 : k = 19
            · subst c3
              rw [ok_var] at hok
              simp only [decide_eq_true_eq] at hok
              have f1 : ((s[19].toNat : Int) != 56) = false ∨ ((s[19].toNat : Int) != 56) = true ∧ (((s[19].toNat : Int) != 57) = false ∨ ((s[19].toNat : Int) != 57) = true ∧ (((s[19].toNat : Int) != 97) = false ∨ ((s[19].toNat : Int) != 97) = true ∧ ((s[19].toNat : Int) != 98) = false)) := by
                simp only [bne_iff_ne, bne_eq_false_iff_eq]; omega
              clear hok
              rcases f1 with e1 | ⟨e1, e2 | ⟨e2, e3 | ⟨e3, e4⟩⟩⟩
              all_goals
                go_wp2
                go_round
                case rel => exact ⟨19 + 1, by omega, by go_num, HI⟩
                case measure => simp [intOf]
            · have d6 : ((k : Int) == 19) = false := by simp; omega
              rw [ok_hex c1 c2 c3] at hok
              have f1 : (decide ((s[k].toNat : Int) < 48) = false ∧ decide (57 < (s[k].toNat : Int)) = false) ∨ (decide ((s[k].toNat : Int) < 48) = false ∧ decide (57 < (s[k].toNat : Int)) = true ∧ decide ((s[k].toNat : Int) < 97) = false ∧ decide (102 < (s[k].toNat : Int)) = false) := by
                simp only [decide_eq_true_eq] at hok
                simp only [decide_eq_true_eq, decide_eq_false_iff_not]; omega
              clear hok c1
              rcases f1 with ⟨e1, e2⟩ | ⟨e1, e2, e3, e4⟩
              all_goals
                go_wp2
                go_round
                case rel => exact ⟨k + 1, by omega, by go_num, HI⟩
                case measure => simp [intOf]; omega
    · have hke : k = 36 := by omega
      subst hke
      go_wp2
      go_ret
      exact ⟨ret_bool (HR.out.trans HK.out).symm, rfl⟩
end Go.Proofs.Qxb6003639a
