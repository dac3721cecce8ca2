/-
  Seat b6605338a. A slice of pointers to messages; 'receiptBytes' (8), 'zzBytes_FnReceiptsExact' (7).
-/
import Derived.Test.Qxb6605338aBytes
namespace Go.Proofs.Qxb6605338a
open Go.RowKit
set_option linter.unusedVariables false

/-! ### A slice of pointers to messages -/
def ptrV : Option (Nat × Nat) → Value
  | none => .pointer none
  | some (b, o) => .pointer (some ⟨b, o, none⟩)

def IsFrom (w : World) (a : Option Addr) (n : Nat) (pt : Nat → Option (Nat × Nat)) (ms : Nat → Msg) : Prop :=
  n = 0 ∨ ∃ b o, a = some ⟨b, o, none⟩ ∧ ∀ j, j < n → w.cell? ⟨b, o + j, none⟩ = some (ptrV (pt j)) ∧ ∀ x, pt j = some x → IsMsg w x.1 x.2 (ms j)

theorem IsFrom.keep {W w' : World} (hb : Below W.heap.size W w') {a : Option Addr} {n : Nat} {pt : Nat → Option (Nat × Nat)} {ms : Nat → Msg} (h : IsFrom W a n pt ms) : IsFrom w' a n pt ms := by
  rcases h with h | ⟨b, o, ha, h⟩
  · exact .inl h
  · exact .inr ⟨b, o, ha, fun j hj => ⟨Qxb6605338a.keep hb (h j hj).1, fun x hx => ((h j hj).2 x hx).keep hb⟩⟩

/-- What message j weighs (no message: nothing). -/
def fSize (pt : Nat → Option (Nat × Nat)) (ms : Nat → Msg) (j : Nat) : Nat := if (pt j).isSome then mSize (ms j) else 0

set_option maxHeartbeats 1000000 in
theorem receiptBytes_any (a : Option Addr) (n c : Nat) (pt : Nat → Option (Nat × Nat)) (ms : Nat → Msg) (w : World) (h : IsFrom w a n pt ms) :
    Calls Try.prog 8 #[.slice a n c] w fun e w' => ∃ B : Int, e = .returned (.int .i64 B) ∧ (B ≤ 1048576 → 8 * n + sumN (fSize pt ms) n ≤ 1048576) ∧ ∃ q, w.drewN q = w' := by
  by_cases h1 : 1048576 < n
  · have h1' : (1048576 : Int) < (n : Int) := by omega
    go_enter Try.func8, Try.ntmps8
    go_wp2
    go_ret
    exact ⟨_, rfl, by omega, 0, rfl⟩
  have h1' : (n : Int) ≤ 1048576 := by omega
  have H : Hid _ := h
  clear h
  go_enter Try.func8, Try.ntmps8
  go_wp2
  go_loopw [3, 4] (fun s i wr => ∃ k q S : Nat, k ≤ n ∧ i = .int .i64 k ∧ s = .int .i64 S ∧ S ≤ 20000000 ∧ wr = w.drewN q ∧ Hid (S ≤ 1048576 → 8 * n + sumN (fSize pt ms) k = S)) (fun _ i _ => n - (intOf i).toNat)
  case atStart => exact ⟨0, 0, 8 * n, Nat.zero_le _, rfl, by go_num, by omega, rfl, fun _ => by simp [sumN]⟩
  case round =>
    obtain ⟨k, q, S, hk, rfl, rfl, hbd, rfl, HS⟩ := hrel
    by_cases hlt : k < n
    · rcases H.out with h0 | ⟨b, o, rfl, hc⟩
      · omega
      have hli : (k : Int) < (n : Int) := by omega
      obtain ⟨g1, g2⟩ := hc k hlt
      clear hc
      by_cases t1 : 1048576 < S
      · have t1' : (1048576 : Int) < (S : Int) := by omega
        go_wp2
        go_ret
        exact ⟨_, rfl, by omega, q, rfl⟩
      have t1' : (S : Int) ≤ 1048576 := by omega
      cases hp : pt k with
      | none =>
        rw [hp] at g1
        have HP : Hid (fSize pt ms k = 0) := by show _ = _; simp [fSize, hp]
        clear hp g2
        have g1' : w.cell? ⟨b, o + k, none⟩ = some (.pointer none) := g1
        clear g1
        go_wp2
        go_roundw
        case rel => exact ⟨k + 1, q, S, by omega, by go_num, rfl, by omega, rfl, fun h => by rw [sumN_succ, HP.out]; exact HS.out h⟩
        case measure => simp [intOf]; omega
      | some x =>
        obtain ⟨mb, mo⟩ := x
        have hm := g2 _ hp
        rw [hp] at g1
        have HP : Hid (fSize pt ms k = mSize (ms k)) := by show _ = _; simp [fSize, hp]
        clear hp g2
        have g1' : w.cell? ⟨b, o + k, none⟩ = some (.pointer (some ⟨mb, mo, none⟩)) := g1
        clear g1
        have HM : Hid (IsMsg w mb mo (ms k)) := hm
        clear hm
        go_wp2_with (go_at_call 13; refine (msgBytes_any mb mo (ms k) _ (HM.out.keep (below_drewN' w q))).mono ?_; rintro e w' ⟨B, rfl, hB0, hB1, hB2, q', rfl⟩)
        go_roundw
        case rel => 
          obtain ⟨B, rfl⟩ := Int.eq_ofNat_of_zero_le hB0
          refine ⟨k + 1, _, S + B, by omega, by go_num, by go_num, by omega, rfl, fun h => ?_⟩
          rw [sumN_succ, HP.out]
          have := HS.out (by omega)
          have := hB2 (by omega)
          omega
        case measure => simp [intOf]; omega
    · by_cases t1 : 1048576 < S
      · have t1' : (1048576 : Int) < (S : Int) := by omega
        go_wp2
        go_ret
        exact ⟨_, rfl, by omega, q, rfl⟩
      · have t1' : (S : Int) ≤ 1048576 := by omega
        have hke : k = n := by omega
        have HE : Hid (8 * n + sumN (fSize pt ms) n = S) := by have := HS.out (by omega); rw [hke] at this; exact this
        go_wp2
        go_ret
        exact ⟨_, rfl, fun _ => by have := HE.out; omega, q, rfl⟩

/-- Some bool came back. -/
def AnyBool (e : Ending) : Prop := ∃ r : Bool, e = .returned (.bool r)

set_option maxRecDepth 100000 in
set_option maxHeartbeats 4000000 in
theorem zz7_any (a : Option Addr) (n c : Nat) (pt : Nat → Option (Nat × Nat)) (ms : Nat → Msg) (w : World) (h : IsFrom w a n pt ms) :
    Calls Try.prog 7 #[.slice a n c] w fun e w' => AnyBool e ∧ w = w' := by
  by_cases h1 : 1048576 < n
  · have h1' : (1048576 : Int) < (n : Int) := by omega
    go_enter Try.func7, Try.ntmps7
    go_wp2
    go_ret
    exact ⟨⟨_, rfl⟩, rfl⟩
  have h1' : (n : Int) ≤ 1048576 := by omega
  have H : Hid _ := h
  clear h
  go_enter Try.func7, Try.ntmps7
  go_wp2
  go_loop [3, 4] (fun s i => ∃ k S : Nat, k ≤ n ∧ i = .int .i64 k ∧ s = .int .i64 S ∧ S ≤ 1048576) (fun _ i => n - (intOf i).toNat)
  case atStart => exact ⟨0, n, Nat.zero_le _, rfl, rfl, by omega⟩
  case round =>
    obtain ⟨k, S, hk, rfl, rfl, hS⟩ := hrel
    have hS' : (S : Int) ≤ 1048576 := by omega
    by_cases hlt : k < n
    · rcases H.out with h0 | ⟨b, o, rfl, hc⟩
      · omega
      have hli : (k : Int) < (n : Int) := by omega
      obtain ⟨g1, g2⟩ := hc k hlt
      clear hc
      cases hp : pt k with
      | none =>
        rw [hp] at g1
        clear hp g2
        have g1' : w.cell? ⟨b, o + k, none⟩ = some (.pointer none) := g1
        clear g1
        go_wp2
        go_round
        case rel => exact ⟨k + 1, S, by omega, by go_num, rfl, hS⟩
        case measure => simp [intOf]; omega
      | some x =>
        obtain ⟨mb, mo⟩ := x
        have hm := g2 _ hp
        rw [hp] at g1
        clear hp g2
        have g1' : w.cell? ⟨b, o + k, none⟩ = some (.pointer (some ⟨mb, mo, none⟩)) := g1
        clear g1
        obtain ⟨c0, c1, c2, c3, c4, c5, c6, c7, rows, vl, sh, hh, ph⟩ := hm
        obtain ⟨_, hrow, _⟩ := rows
        clear c0 c1 c2 c3 c5
        generalize ms k = m at *
        obtain ⟨frm, dst, rnd, num, val, stamp, sa, sn, sc, SA, SR, SP, ha, hn, hc, HA, HN, HS, pa, pn, pc, PA, PN, PS⟩ := m
        dsimp only at c4 c6 c7 hrow vl sh hh ph
        have HR : Hid _ := hrow
        clear hrow
        go_wp2
        all_goals first | (go_ret; exact ⟨⟨_, rfl⟩, rfl⟩) | skip
        have hz : (S : Int) + val.size + sn + hn ≤ 1048576 := by assumption
        go_loop [3, 5] (fun s i => ∃ k' S' : Nat, k' ≤ hn ∧ i = .int .i64 k' ∧ s = .int .i64 S' ∧ S' ≤ 1048576) (fun _ i => hn - (intOf i).toNat)
        case atStart => exact ⟨0, S + val.size + sn + hn, Nat.zero_le _, rfl, by go_num, by omega⟩
        case round =>
          obtain ⟨k', S', hk', rfl, rfl, hS2⟩ := hrel
          have hS2' : (S' : Int) ≤ 1048576 := by omega
          by_cases hlt' : k' < hn
          · rcases HR.out with h0 | ⟨hb, ho, rfl, hrow⟩
            · omega
            have g3 := (hrow k' hlt').2.2.2
            have hli' : (k' : Int) < (hn : Int) := by omega
            clear hrow
            go_wp2
            all_goals first | (go_ret; exact ⟨⟨_, rfl⟩, rfl⟩) | skip
            have hz2 : (S' : Int) + pn k' ≤ 1048576 := by assumption
            go_round
            case rel => exact ⟨k' + 1, S' + pn k', by omega, by go_num, by go_num, by omega⟩
            case measure => simp [intOf]; omega
          · go_wp2
            go_round
            case rel => exact ⟨k + 1, S', by omega, by go_num, rfl, hS2⟩
            case measure => simp [intOf]; omega
    · go_wp2
      go_ret
      exact ⟨⟨_, rfl⟩, rfl⟩
end Go.Proofs.Qxb6605338a
