/-
  Seat b6605304a. The contract of 'store.appendDigits' (function 15) and of its front 'ZZappendDigits' (9), of 'lawPow10' (7), 'lawDecimal' (10).
-/
import Derived.Test.Qxb6605304aRows
import Derived.WalkKit
import Derived.WalkSpells
import Derived.WalkSmall
namespace Go.Proofs.Qxb6605304a
open Go.RowKit
set_option linter.unusedVariables false

theorem Try.info5 : (Try.prog.info? 5).map (fun i => (i.zero, i.size, i.bytes)) = some (some (.int .u8 0), 1, 1) := by kernel_rfl

/-- The decimal digits of n, as bytes, k of them. -/
def digs : Nat → Int → List Int
  | 0, _ => []
  | k + 1, n => digs k (n / 10) ++ [48 + n % 10]

theorem grownBy_trans {a b c : World} {r : Option Nat} (h : a.grownBy b none) (k : b.grownBy c r) : a.grownBy c r :=
  ⟨k.os.trans h.os, k.tape.trans h.tape, k.output.trans h.output, Nat.le_trans h.size k.size, fun i hi hne => (k.block i (Nat.lt_of_lt_of_le hi h.size) hne).trans (h.block i hi (by simp))⟩

set_option maxHeartbeats 400000 in
theorem app0 (v : Value) (len : Nat) (xs : List Value) (n : Int) (base : Nat) (w : World) (hn : 0 ≤ n) (hn' : n ≤ 9999) (hown : w.ownsRow base 5 1 v len xs) (hb : base ≤ w.heap.size) (hl : len ≤ 1048576) :
    Calls Try.prog 15 #[v, .int .i64 n, .int .i64 0] w fun e w' => ∃ v', e = .returned v' ∧ w'.ownsRow base 5 1 v' (len + 0) (xs ++ (digs 0 n).map (.int .u8)) ∧ w.grownBy w' v.ownBlock := by
  obtain ⟨i0, hi, hz0, hz1, hz2⟩ := info_parts Try.info5
  go_enter Try.func15, Try.ntmps15
  go_wp2
  refine wp_loop_rounds 1 ?_
  rw [rounds_succ]
  go_wp2_with (at_builtin; refine wpList_append_own _ rfl _ _ 22 rfl base 5 i0 (.int .u8 0) 1 1 Try.underlying22 hi hz0 hz1 hz2 rfl (by decide) _ _ _ rfl (hown.alloc _) ⟨w.heap.size, 0, none⟩ 0 4 ((digs 0 n).map (.int .u8)) rfl rfl ?c1 ?c2 ?c3 ?c4 ?c5 ?_)
  case c1 =>
    intro j u hj
    simp [digs] at hj
  case c2 => intro u hu; simp [digs] at hu
  case c3 => unfold maxLen; omega
  case c4 => omega
  case c5 => simp; omega
  · intro v' w1 hown' hgrow _
    clear hown
    go_wp2
    go_ret
    exact ⟨_, rfl, hown', grownBy_trans (World.grownBy_alloc _ _ _) hgrow⟩

set_option maxHeartbeats 400000 in
theorem app1 (v : Value) (len : Nat) (xs : List Value) (n : Int) (base : Nat) (w : World) (hn : 0 ≤ n) (hn' : n ≤ 9999) (hown : w.ownsRow base 5 1 v len xs) (hb : base ≤ w.heap.size) (hl : len ≤ 1048576) :
    Calls Try.prog 15 #[v, .int .i64 n, .int .i64 1] w fun e w' => ∃ v', e = .returned v' ∧ w'.ownsRow base 5 1 v' (len + 1) (xs ++ (digs 1 n).map (.int .u8)) ∧ w.grownBy w' v.ownBlock := by
  obtain ⟨i0, hi, hz0, hz1, hz2⟩ := info_parts Try.info5
  go_enter Try.func15, Try.ntmps15
  go_wp2
  refine wp_loop_rounds 2 ?_
  rw [rounds_succ]
  go_wp2
  rw [rounds_succ]
  go_wp2_with (at_builtin; refine wpList_append_own _ rfl _ _ 22 rfl base 5 i0 (.int .u8 0) 1 1 Try.underlying22 hi hz0 hz1 hz2 rfl (by decide) _ _ _ rfl (hown.alloc _) ⟨w.heap.size, 0, none⟩ 1 4 ((digs 1 n).map (.int .u8)) rfl rfl ?c1 ?c2 ?c3 ?c4 ?c5 ?_)
  case c1 =>
    intro j u hj
    match j, hj with
    | 0, hj => simp [digs] at hj; subst hj; simp [Addr.add]
  case c2 => intro u hu; simp [digs] at hu; subst hu; rfl
  case c3 => unfold maxLen; omega
  case c4 => omega
  case c5 => simp; omega
  · intro v' w1 hown' hgrow _
    clear hown
    go_wp2
    go_ret
    exact ⟨_, rfl, hown', grownBy_trans (World.grownBy_alloc _ _ _) hgrow⟩

set_option maxHeartbeats 400000 in
theorem app2 (v : Value) (len : Nat) (xs : List Value) (n : Int) (base : Nat) (w : World) (hn : 0 ≤ n) (hn' : n ≤ 9999) (hown : w.ownsRow base 5 1 v len xs) (hb : base ≤ w.heap.size) (hl : len ≤ 1048576) :
    Calls Try.prog 15 #[v, .int .i64 n, .int .i64 2] w fun e w' => ∃ v', e = .returned v' ∧ w'.ownsRow base 5 1 v' (len + 2) (xs ++ (digs 2 n).map (.int .u8)) ∧ w.grownBy w' v.ownBlock := by
  obtain ⟨i0, hi, hz0, hz1, hz2⟩ := info_parts Try.info5
  go_enter Try.func15, Try.ntmps15
  go_wp2
  refine wp_loop_rounds 3 ?_
  rw [rounds_succ]
  go_wp2
  rw [rounds_succ]
  go_wp2
  rw [rounds_succ]
  go_wp2_with (at_builtin; refine wpList_append_own _ rfl _ _ 22 rfl base 5 i0 (.int .u8 0) 1 1 Try.underlying22 hi hz0 hz1 hz2 rfl (by decide) _ _ _ rfl (hown.alloc _) ⟨w.heap.size, 0, none⟩ 2 4 ((digs 2 n).map (.int .u8)) rfl rfl ?c1 ?c2 ?c3 ?c4 ?c5 ?_)
  case c1 =>
    intro j u hj
    match j, hj with
    | 0, hj => simp [digs] at hj; subst hj; simp [Addr.add]
    | 1, hj => simp [digs] at hj; subst hj; simp [Addr.add]
  case c2 => intro u hu; simp [digs] at hu; rcases hu with rfl | rfl <;> rfl
  case c3 => unfold maxLen; omega
  case c4 => omega
  case c5 => simp; omega
  · intro v' w1 hown' hgrow _
    clear hown
    go_wp2
    go_ret
    exact ⟨_, rfl, hown', grownBy_trans (World.grownBy_alloc _ _ _) hgrow⟩

set_option maxHeartbeats 400000 in
theorem app3 (v : Value) (len : Nat) (xs : List Value) (n : Int) (base : Nat) (w : World) (hn : 0 ≤ n) (hn' : n ≤ 9999) (hown : w.ownsRow base 5 1 v len xs) (hb : base ≤ w.heap.size) (hl : len ≤ 1048576) :
    Calls Try.prog 15 #[v, .int .i64 n, .int .i64 3] w fun e w' => ∃ v', e = .returned v' ∧ w'.ownsRow base 5 1 v' (len + 3) (xs ++ (digs 3 n).map (.int .u8)) ∧ w.grownBy w' v.ownBlock := by
  obtain ⟨i0, hi, hz0, hz1, hz2⟩ := info_parts Try.info5
  go_enter Try.func15, Try.ntmps15
  go_wp2
  refine wp_loop_rounds 4 ?_
  rw [rounds_succ]
  go_wp2
  rw [rounds_succ]
  go_wp2
  rw [rounds_succ]
  go_wp2
  rw [rounds_succ]
  go_wp2_with (at_builtin; refine wpList_append_own _ rfl _ _ 22 rfl base 5 i0 (.int .u8 0) 1 1 Try.underlying22 hi hz0 hz1 hz2 rfl (by decide) _ _ _ rfl (hown.alloc _) ⟨w.heap.size, 0, none⟩ 3 4 ((digs 3 n).map (.int .u8)) rfl rfl ?c1 ?c2 ?c3 ?c4 ?c5 ?_)
  case c1 =>
    intro j u hj
    match j, hj with
    | 0, hj => simp [digs] at hj; subst hj; simp [Addr.add]
    | 1, hj => simp [digs] at hj; subst hj; simp [Addr.add]
    | 2, hj => simp [digs] at hj; subst hj; simp [Addr.add]
  case c2 => intro u hu; simp [digs] at hu; rcases hu with rfl | rfl | rfl <;> rfl
  case c3 => unfold maxLen; omega
  case c4 => omega
  case c5 => simp; omega
  · intro v' w1 hown' hgrow _
    clear hown
    go_wp2
    go_ret
    exact ⟨_, rfl, hown', grownBy_trans (World.grownBy_alloc _ _ _) hgrow⟩

set_option maxHeartbeats 400000 in
theorem app4 (v : Value) (len : Nat) (xs : List Value) (n : Int) (base : Nat) (w : World) (hn : 0 ≤ n) (hn' : n ≤ 9999) (hown : w.ownsRow base 5 1 v len xs) (hb : base ≤ w.heap.size) (hl : len ≤ 1048576) :
    Calls Try.prog 15 #[v, .int .i64 n, .int .i64 4] w fun e w' => ∃ v', e = .returned v' ∧ w'.ownsRow base 5 1 v' (len + 4) (xs ++ (digs 4 n).map (.int .u8)) ∧ w.grownBy w' v.ownBlock := by
  obtain ⟨i0, hi, hz0, hz1, hz2⟩ := info_parts Try.info5
  go_enter Try.func15, Try.ntmps15
  go_wp2
  refine wp_loop_rounds 5 ?_
  rw [rounds_succ]
  go_wp2
  rw [rounds_succ]
  go_wp2
  rw [rounds_succ]
  go_wp2
  rw [rounds_succ]
  go_wp2
  rw [rounds_succ]
  go_wp2_with (at_builtin; refine wpList_append_own _ rfl _ _ 22 rfl base 5 i0 (.int .u8 0) 1 1 Try.underlying22 hi hz0 hz1 hz2 rfl (by decide) _ _ _ rfl (hown.alloc _) ⟨w.heap.size, 0, none⟩ 4 4 ((digs 4 n).map (.int .u8)) rfl rfl ?c1 ?c2 ?c3 ?c4 ?c5 ?_)
  case c1 =>
    intro j u hj
    match j, hj with
    | 0, hj => simp [digs] at hj; subst hj; simp [Addr.add]
    | 1, hj => simp [digs] at hj; subst hj; simp [Addr.add]
    | 2, hj => simp [digs] at hj; subst hj; simp [Addr.add]
    | 3, hj => simp [digs] at hj; subst hj; simp [Addr.add]
  case c2 => intro u hu; simp [digs] at hu; rcases hu with rfl | rfl | rfl | rfl <;> rfl
  case c3 => unfold maxLen; omega
  case c4 => omega
  case c5 => simp; omega
  · intro v' w1 hown' hgrow _
    clear hown
    go_wp2
    go_ret
    exact ⟨_, rfl, hown', grownBy_trans (World.grownBy_alloc _ _ _) hgrow⟩

/-- appendDigits, at every width from 0 to 4. -/
theorem app_any (v : Value) (len : Nat) (xs : List Value) (n : Int) (k : Nat) (base : Nat) (w : World) (hk : k ≤ 4) (hn : 0 ≤ n) (hn' : n ≤ 9999) (hown : w.ownsRow base 5 1 v len xs) (hb : base ≤ w.heap.size) (hl : len ≤ 1048576) :
    Calls Try.prog 15 #[v, .int .i64 n, .int .i64 k] w fun e w' => ∃ v', e = .returned v' ∧ w'.ownsRow base 5 1 v' (len + k) (xs ++ (digs k n).map (.int .u8)) ∧ w.grownBy w' v.ownBlock := by
  match k, hk with
  | 0, _ => exact app0 v len xs n base w hn hn' hown hb hl
  | 1, _ => exact app1 v len xs n base w hn hn' hown hb hl
  | 2, _ => exact app2 v len xs n base w hn hn' hown hb hl
  | 3, _ => exact app3 v len xs n base w hn hn' hown hb hl
  | 4, _ => exact app4 v len xs n base w hn hn' hown hb hl

/-- ZZappendDigits is appendDigits. -/
theorem zzapp_any (v : Value) (len : Nat) (xs : List Value) (n : Int) (k : Nat) (base : Nat) (w : World) (hk : k ≤ 4) (hn : 0 ≤ n) (hn' : n ≤ 9999) (hown : w.ownsRow base 5 1 v len xs) (hb : base ≤ w.heap.size) (hl : len ≤ 1048576) :
    Calls Try.prog 9 #[v, .int .i64 n, .int .i64 k] w fun e w' => ∃ v', e = .returned v' ∧ w'.ownsRow base 5 1 v' (len + k) (xs ++ (digs k n).map (.int .u8)) ∧ w.grownBy w' v.ownBlock := by
  go_enter Try.func9, Try.ntmps9
  go_wp2_with (go_at_call 15; refine (app_any v len xs n k base _ hk hn hn' hown hb hl).mono ?_; rintro e w' ⟨v', rfl, ho, hg⟩)
  go_ret
  exact ⟨_, rfl, ho, hg⟩

/-- Ten to the power k. -/
def p10 : Nat → Int
  | 0 => 1
  | k + 1 => 10 * p10 k

theorem pow_any (k : Nat) (hk : k ≤ 4) (w : World) :
    Calls Try.prog 7 #[.int .i64 k] w fun e w' => e = .returned (.int .i64 (p10 k)) ∧ w = w' := by
  match k, hk with
  | 0, _ => go_enter Try.func7, Try.ntmps7; go_wp2; go_ret; exact ⟨rfl, rfl⟩
  | 1, _ => go_enter Try.func7, Try.ntmps7; go_wp2; go_ret; exact ⟨rfl, rfl⟩
  | 2, _ => go_enter Try.func7, Try.ntmps7; go_wp2; go_ret; exact ⟨rfl, rfl⟩
  | 3, _ => go_enter Try.func7, Try.ntmps7; go_wp2; go_ret; exact ⟨rfl, rfl⟩
  | 4, _ => go_enter Try.func7, Try.ntmps7; go_wp2; go_ret; exact ⟨rfl, rfl⟩

/-! ### lawDecimal -/
def decA : Int → List Int → Int
  | acc, [] => acc
  | acc, d :: ds => decA (acc * 10 + (d - 48)) ds
def dec (ds : List Int) : Int := decA 0 ds
theorem decA_snoc (ds : List Int) (d : Int) : ∀ acc, decA acc (ds ++ [d]) = decA acc ds * 10 + (d - 48) := by
  induction ds with
  | nil => intro acc; rfl
  | cons x ds ih => intro acc; simp only [List.cons_append, decA]; exact ih _
theorem dec_snoc (ds : List Int) (d : Int) : dec (ds ++ [d]) = dec ds * 10 + (d - 48) := decA_snoc ds d 0
/-- Each of these bytes is a digit. -/
def Digs (ds : List Int) : Prop := ∀ d ∈ ds, 48 ≤ d ∧ d ≤ 57
theorem Digs.take {ds : List Int} (h : Digs ds) (k : Nat) : Digs (ds.take k) := fun d hd => h d (List.mem_of_mem_take hd)
theorem p10_pos (k : Nat) : 1 ≤ p10 k := by
  induction k with
  | zero => decide
  | succ k ih => unfold p10; omega
theorem digs_len (k : Nat) : ∀ n, (digs k n).length = k := by
  induction k with
  | zero => intro n; rfl
  | succ k ih => intro n; simp [digs, ih]
theorem digs_digs (k : Nat) : ∀ n, Digs (digs k n) := by
  induction k with
  | zero => intro n d hd; simp [digs] at hd
  | succ k ih =>
    intro n d hd
    simp only [digs, List.mem_append, List.mem_singleton] at hd
    rcases hd with hd | rfl
    · exact ih _ d hd
    · omega
theorem dec_digs (k : Nat) : ∀ n, 0 ≤ n → n < p10 k → dec (digs k n) = n := by
  induction k with
  | zero => intro n h0 h1; unfold p10 at h1; have : n = 0 := by omega
            subst this; rfl
  | succ k ih =>
    intro n h0 h1
    unfold p10 at h1
    rw [digs, dec_snoc, ih (n / 10) (by omega) (by omega)]
    omega
theorem dec_bd (ds : List Int) (h : Digs ds) (hl : ds.length ≤ 4) : 0 ≤ dec ds ∧ dec ds ≤ 9999 := by
  match ds, hl, h with
  | [], _, _ => decide
  | [a], _, h => have := h a (by simp); simp [dec, decA]; omega
  | [a, b], _, h => have := h a (by simp); have := h b (by simp); simp [dec, decA]; omega
  | [a, b, c], _, h => have := h a (by simp); have := h b (by simp); have := h c (by simp); simp [dec, decA]; omega
  | [a, b, c, d], _, h => have := h a (by simp); have := h b (by simp); have := h c (by simp); have := h d (by simp); simp [dec, decA]; omega

theorem dec_take (ds : List Int) (k : Nat) (h : k < ds.length) : dec (ds.take (k + 1)) = dec (ds.take k) * 10 + (ds[k] - 48) := by
  rw [List.take_succ_eq_append_getElem h, dec_snoc]

set_option maxHeartbeats 400000 in
/-- lawDecimal over a row of at most four digits. -/
theorem decimal_some (b off cap : Nat) (ds : List Int) (w : World) (hd : Digs ds) (hl : ds.length ≤ 4)
    (hc : ∀ j, j < ds.length → w.cell? ⟨b, off + j, none⟩ = some (.int .u8 (ds.getD j 0))) :
    Calls Try.prog 10 #[.slice (some ⟨b, off, none⟩) ds.length cap] w fun e w' => e = .returned (.tuple #[.int .i64 (dec ds), .bool true]) ∧ w = w' := by
  go_enter Try.func10, Try.ntmps10
  go_wp2
  go_loop [4, 5] (fun v i => ∃ k : Nat, k ≤ ds.length ∧ i = .int .i64 k ∧ v = .int .i64 (dec (ds.take k))) (fun _ i => ds.length - (intOf i).toNat)
  case atStart => exact ⟨0, Nat.zero_le _, rfl, rfl⟩
  case round =>
    obtain ⟨k, hk, rfl, rfl⟩ := hrel
    have hbd := dec_bd (ds.take k) (hd.take k) (by simp; omega)
    obtain ⟨hb0, hb1⟩ := hbd
    by_cases hlt : k < ds.length
    · have hcell : w.cell? ⟨b, off + k, none⟩ = some (.int .u8 ds[k]) := by rw [hc k hlt]; simp [hlt]
      have hdd := hd ds[k] (List.getElem_mem hlt)
      have HS : Hid (dec (ds.take (k + 1)) = dec (ds.take k) * 10 + (ds[k] - 48)) := dec_take ds k hlt
      obtain ⟨hd0, hd1⟩ := hdd
      clear hc hd
      go_wp2
      go_round
      case rel => exact ⟨k + 1, by omega, by go_num, by rw [HS.out]⟩
      case measure => simp [intOf]; omega
    · go_wp2
      go_ret2
      have e : ds.take k = ds := List.take_of_length_le (by omega)
      exact ⟨by rw [e]; rfl, rfl⟩

theorem decimal_zero (a : Option Addr) (cap : Nat) (w : World) :
    Calls Try.prog 10 #[.slice a 0 cap] w fun e w' => e = .returned (.tuple #[.int .i64 0, .bool true]) ∧ w = w' := by
  go_enter Try.func10, Try.ntmps10
  go_wp2
  refine wp_loop_rounds 1 ?_
  rw [rounds_succ]
  go_wp2
  go_ret2
  exact ⟨rfl, rfl⟩

/-- The cells of a row of bytes that is owned. -/
theorem own_cells {w : World} {base g cap : Nat} {ds : List Int} {n : Nat} (h : w.ownsRow base 5 1 (.slice (some ⟨g, 0, none⟩) n cap) ds.length (ds.map (.int .u8))) :
    ∀ j, j < ds.length → w.cell? ⟨g, 0 + j, none⟩ = some (.int .u8 (ds.getD j 0)) := by
  intro j hj
  have := h.cells (g := g) rfl j (.int .u8 ds[j]) (by simp [hj])
  have hadd : (⟨g, 0, none⟩ : Addr).add j = ⟨g, 0 + j, none⟩ := by unfold Addr.add; split <;> simp_all
  rw [hadd] at this
  rw [this]
  simp [hj]

theorem decimal_own (v : Value) (ds : List Int) (base : Nat) (w : World) (hd : Digs ds) (hl : ds.length ≤ 4) (hown : w.ownsRow base 5 1 v ds.length (ds.map (.int .u8))) :
    Calls Try.prog 10 #[v] w fun e w' => e = .returned (.tuple #[.int .i64 (dec ds), .bool true]) ∧ w = w' := by
  have h := hown
  rcases hown.2 with ⟨rfl, h0⟩ | ⟨g, cap, cur, rfl, _⟩
  · have : ds = [] := List.eq_nil_of_length_eq_zero h0
    subst this
    exact decimal_zero none 0 w
  · exact decimal_some g 0 cap ds w hd hl (own_cells h)

theorem p10_le (k : Nat) (h : k ≤ 4) : p10 k ≤ 10000 := by
  match k, h with
  | 0, _ => decide
  | 1, _ => decide
  | 2, _ => decide
  | 3, _ => decide
  | 4, _ => decide

/-- appendDigits onto nil: what comes back is a row of the call's own. -/
theorem zzapp_nil (n : Int) (k : Nat) (base : Nat) (w : World) (hk : k ≤ 4) (hn : 0 ≤ n) (hn' : n ≤ 9999) (hb : base ≤ w.heap.size) :
    Calls Try.prog 9 #[.slice none 0 0, .int .i64 n, .int .i64 k] w fun e w' => ∃ a c, e = .returned (.slice a k c) ∧ w'.ownsRow base 5 1 (.slice a k c) k ((digs k n).map (.int .u8)) ∧ w.grownBy w' none := by
  refine (zzapp_any (.slice none 0 0) 0 [] n k base w hk hn hn' (World.ownsRow_nil _ _ _ _) hb (by omega)).mono ?_
  rintro e w' ⟨v', rfl, o, g⟩
  simp only [Nat.zero_add, List.nil_append] at o
  have h := o.2
  rcases h with ⟨rfl, rfl⟩ | ⟨g', cap, cur, rfl, _⟩
  · exact ⟨none, 0, rfl, o, g⟩
  · exact ⟨_, _, rfl, o, g⟩

theorem below_of_grown {w w' : World} (h : w.grownBy w' none) : Below w.heap.size w w' := (Below.refl _ _).grown h (Nat.le_refl _) (by simp)

end Go.Proofs.Qxb6605304a
