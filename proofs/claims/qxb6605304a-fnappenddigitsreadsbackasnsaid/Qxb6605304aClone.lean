/-
  Seat b6605304a. The contract of 'lawCloneBytes' (function 8), of 'zzBytes_FnAppendDigitsReadsBackAsN' (6).
-/
import Derived.Test.Qxb6605304aDigits
import Derived.Deep.QuietTactic
import Derived.BigQuiet
import Derived.Deep.OwnRows
import Derived.Laws.CopyOwn
namespace Go.Proofs.Qxb6605304a
open Go.RowKit
set_option linter.unusedVariables false

theorem nil22 (w : World) (a : Option Addr) (n c n' c' : Nat) : (binOp .eql 22 (.slice a n c) (.slice none n' c')).run Try.prog w = .ok (.bool a.isNone) w := Lib.run_eql_slice_nil w _ _ a n c n' c' Try.underlying22

theorem clone_nil (n c : Nat) (w : World) :
    Calls Try.prog 8 #[.slice none n c] w fun e w' => e = .returned (.slice none 0 0) ∧ w = w' := by
  have q := nil22
  go_enter Try.func8, Try.ntmps8
  go_wp2
  go_ret
  exact ⟨rfl, rfl⟩

theorem copy_made (x : Addr) (len cap : Nat) (cs : List Value) (w : World) (HL : Hid (cs.length = len)) (hc : ∀ j v, cs[j]? = some v → w.cell? (x.add j) = some v) (h1 : ∀ v ∈ cs, v.oneCell' = true) :
    ∃ W2, (Builtin.copy_ #[22, 22] 3 #[.slice (some ⟨w.heap.size, 0, none⟩) len len, .slice (some x) len cap]).run Try.prog (w.alloc (.cells (madeCells #[.int .u8 0] len) 5)) = .ok (.int .i64 len) W2 ∧
      Hid (W2.heap[w.heap.size]? = some (.cells cs.toArray 5 (0, 0))) ∧ Below w.heap.size w W2 := by
  have hg : (w.alloc (.cells (madeCells #[.int .u8 0] len) 5)).heap[w.heap.size]? = some (.cells (madeCells #[.int .u8 0] len) 5 (0, 0)) := heap_alloc_new w _
  have hr := run_copy_row (P := Try.prog) (w.alloc (.cells (madeCells #[.int .u8 0] len) 5)) 22 22 3 5 w.heap.size 0 len len x len cap (madeCells #[.int .u8 0] len) 5 cs Try.underlying22 (by kernel_rfl) hg (by rw [HL.out]; simp)
    (fun j v hj => by
      have h := hc j v hj
      rw [← h]
      exact World.cell?_of_block (w := w) (Below.heap_alloc w _ _ (World.block_lt_of_cell? w _ h)))
    (by rw [HL.out]; simp [size_madeCells]) h1
  refine ⟨_, hr.trans (by rw [HL.out]; rfl), ?_, below_setRow ((Below.refl _ _).alloc (Nat.le_refl _) _) (Nat.le_refl _) _⟩
  show _ = _
  rw [setRow_heap _ _ _ _ _ _ hg]
  have : cs ++ (madeCells #[.int .u8 0] len).toList.drop (0 + len) = cs := by
    rw [List.drop_eq_nil_of_le (by simp [size_madeCells]), List.append_nil]
  simp only [List.take_zero, List.nil_append]
  rw [this]

set_option maxHeartbeats 400000 in
theorem clone_some (x : Addr) (len cap : Nat) (cs : List Value) (w : World) (hl : cs.length = len) (hb : len ≤ 1048576) (hc : ∀ j v, cs[j]? = some v → w.cell? (x.add j) = some v) (h1 : ∀ v ∈ cs, v.oneCell' = true) :
    Calls Try.prog 8 #[.slice (some x) len cap] w fun e w' => e = .returned (.slice (some ⟨w.heap.size, 0, none⟩) len len) ∧ w'.heap[w.heap.size]? = some (.cells cs.toArray 5 (0, 0)) ∧ Below w.heap.size w w' := by
  have q := nil22
  have hmk := fun w => run_make_row' (P := Try.prog) 22 5 (.int .u8 0) 1 Try.underlying22 Try.info5 rfl .i64 .i64 len (by omega) (by omega) w
  have HL : Hid (cs.length = len) := hl
  clear hl
  obtain ⟨W2, hcp, HG, hb2⟩ := copy_made x len cap cs w HL hc h1
  clear hc h1
  go_enter Try.func8, Try.ntmps8
  go_wp2
  go_ret
  exact ⟨rfl, HG.out, hb2⟩

/-- zzBytes: is the slice at most 1<<20 long? -/
theorem bytes6_yes (a : Option Addr) (len cap : Nat) (n k : Int) (h : len ≤ 1048576) (w : World) :
    Calls Try.prog 6 #[.slice a len cap, .int .i64 n, .int .i64 k] w fun e w' => e = .returned (.bool true) ∧ w = w' := by
  have h' : (len : Int) ≤ 1048576 := by omega
  go_enter Try.func6, Try.ntmps6
  go_wp2
  go_ret
  exact ⟨rfl, rfl⟩
theorem bytes6_no (a : Option Addr) (len cap : Nat) (n k : Int) (h : ¬ len ≤ 1048576) (w : World) :
    Calls Try.prog 6 #[.slice a len cap, .int .i64 n, .int .i64 k] w fun e w' => e = .returned (.bool false) ∧ w = w' := by
  have h' : (1048576 : Int) < len := by omega
  go_enter Try.func6, Try.ntmps6
  go_wp2
  go_ret
  exact ⟨rfl, rfl⟩

/-- lawCloneBytes, whatever slice: a row of the call's own with the same bytes. -/
theorem clone_any (a : Option Addr) (len cap : Nat) (cs : List Value) (w : World) (hl : cs.length = len) (hb : len ≤ 1048576) (hn : a = none → len = 0)
    (hc : ∀ x, a = some x → ∀ j v, cs[j]? = some v → w.cell? (x.add j) = some v) (h1 : ∀ v ∈ cs, v.oneCell' = true) :
    Calls Try.prog 8 #[.slice a len cap] w fun e w' => ∃ a' c', e = .returned (.slice a' len c') ∧ w'.ownsRow w.heap.size 5 1 (.slice a' len c') len cs ∧ Below w.heap.size w w' := by
  match a, hn, hc with
  | none, hn, hc =>
    have h0 := hn rfl
    subst h0
    have h2 : cs = [] := List.eq_nil_of_length_eq_zero hl
    subst h2
    refine (clone_nil 0 cap w).mono ?_
    rintro e w' ⟨rfl, rfl⟩
    exact ⟨none, 0, rfl, World.ownsRow_nil _ _ _ _, Below.refl _ _⟩
  | some x, hn, hc =>
    have hc := hc x rfl
    refine (clone_some x len cap cs w hl hb hc h1).mono ?_
    rintro e w' ⟨rfl, hr, hbl⟩
    exact ⟨_, _, rfl, ⟨by omega, .inr ⟨w.heap.size, len, cs.toArray, rfl, Nat.le_refl _, hr, Nat.le_refl _, by unfold maxLen; omega, by simp [hl], by simp; exact List.take_of_length_le (by omega)⟩⟩, hbl⟩

/-- What an owned slice of bytes looks like. -/
theorem own_shape {w : World} {base n : Nat} {v : Value} {cs : List Value} (h : w.ownsRow base 5 1 v n cs) : (v = .slice none 0 0 ∧ n = 0) ∨ ∃ g c, v = .slice (some ⟨g, 0, none⟩) n c ∧ base ≤ g ∧ n ≤ c ∧ c ≤ maxLen ∧ ∀ j u, cs[j]? = some u → w.cell? ⟨g, j, none⟩ = some u := by
  rcases h.2 with h' | ⟨g, c, cur, rfl, hb, _, hc, hm, _⟩
  · exact .inl h'
  · refine .inr ⟨g, c, rfl, hb, hc, hm, fun j u hj => ?_⟩
    have := h.cells (g := g) rfl j u hj
    have hadd : (⟨g, 0, none⟩ : Addr).add j = ⟨g, j, none⟩ := by unfold Addr.add; split <;> simp_all
    rwa [hadd] at this

theorem own_args {w : World} {base n c : Nat} {a : Option Addr} {cs : List Value} (h : w.ownsRow base 5 1 (.slice a n c) n cs) : (a = none → n = 0) ∧ ∀ x, a = some x → ∀ j v, cs[j]? = some v → w.cell? (x.add j) = some v := by
  rcases h.2 with ⟨h1, h2⟩ | ⟨g, cap, cur, h1, _⟩
  · simp at h1
    obtain ⟨rfl, rfl, rfl⟩ := h1
    exact ⟨fun _ => rfl, fun x hx => by simp at hx⟩
  · simp at h1
    obtain ⟨rfl, rfl⟩ := h1
    refine ⟨fun h => by simp at h, fun x hx j v hj => ?_⟩
    simp at hx
    subst hx
    exact h.cells (g := g) rfl j v hj
end Go.Proofs.Qxb6605304a
