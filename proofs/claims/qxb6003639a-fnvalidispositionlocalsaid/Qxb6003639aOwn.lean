/-
  Seat b6003639a. A block of the call's own, known whole: 'Own w g N T f': block g has N cells of type T, not frozen, cell i holds 'f i'; a buffer of bytes that a loop fills; the string it becomes.
-/
import Derived.Test.Qxb6003639aPlain
import Derived.Deep.OwnRows
import Derived.Laws.IdiomStrings
namespace Go.Proofs.Qxb6003639a
open Go.RowKit
set_option linter.unusedVariables false

def Own (w : World) (g N : Nat) (T : TypeId) (f : Nat → Value) : Prop :=
  ∃ arr : Array Value, w.heap[g]? = some (.cells arr T (0, 0)) ∧ arr.size = N ∧ ∀ i, i < N → arr[i]? = some (f i)

/-- One cell turned. -/
def upd (f : Nat → Value) (o : Nat) (v : Value) : Nat → Value := fun i => if i = o then v else f i
theorem upd_same (f : Nat → Value) (o : Nat) (v : Value) : upd f o v o = v := if_pos rfl
theorem upd_ne (f : Nat → Value) {o i : Nat} (v : Value) (h : i ≠ o) : upd f o v i = f i := if_neg h

theorem Own.lt {w : World} {g N : Nat} {T : TypeId} {f : Nat → Value} (h : Own w g N T f) : g < w.heap.size := by
  obtain ⟨arr, h1, _⟩ := h
  exact (Array.getElem?_eq_some_iff.1 h1).1

theorem Own.cell {w : World} {g N : Nat} {T : TypeId} {f : Nat → Value} (h : Own w g N T f) {i : Nat} (hi : i < N) : w.cell? ⟨g, i, none⟩ = some (f i) := by
  obtain ⟨arr, h1, h2, h3⟩ := h
  simp only [World.cell?, h1]
  exact h3 i hi

theorem Own.frozen {w : World} {g N : Nat} {T : TypeId} {f : Nat → Value} (h : Own w g N T f) (i : Nat) : w.frozen? ⟨g, i, none⟩ = false := by
  obtain ⟨arr, h1, h2, h3⟩ := h
  simp [World.frozen?, h1]

theorem Own.of_block {w w' : World} {g N : Nat} {T : TypeId} {f : Nat → Value} (h : Own w g N T f) (e : w'.heap[g]? = w.heap[g]?) : Own w' g N T f := by
  obtain ⟨arr, h1, h2, h3⟩ := h
  exact ⟨arr, e.trans h1, h2, h3⟩

theorem Own.keep {w w' : World} {g N B : Nat} {T : TypeId} {f : Nat → Value} (h : Own w g N T f) (hb : Below B w w') (hg : g < B) : Own w' g N T f := h.of_block (hb.block g hg)
theorem Own.drew {w : World} {g N : Nat} {T : TypeId} {f : Nat → Value} (h : Own w g N T f) : Own w.drew g N T f := h.of_block rfl
theorem Own.drewN {w : World} {g N : Nat} {T : TypeId} {f : Nat → Value} (h : Own w g N T f) (q : Nat) : Own (w.drewN q) g N T f := h.of_block rfl
theorem Own.alloc {w : World} {g N : Nat} {T : TypeId} {f : Nat → Value} (h : Own w g N T f) (o : Obj) : Own (w.alloc o) g N T f := h.of_block (Below.heap_alloc w o g h.lt)
theorem Own.grown {w w' : World} {g N : Nat} {T : TypeId} {f : Nat → Value} (h : Own w g N T f) {row : Option Nat} (hg : w.grownBy w' row) (hne : row ≠ some g) : Own w' g N T f := h.of_block (hg.block g h.lt (fun e => hne e.symm))

theorem Own.set_ne {w : World} {g N : Nat} {T : TypeId} {f : Nat → Value} (h : Own w g N T f) {a : Addr} (hne : g ≠ a.block) (v : Value) : Own (w.setCell a v) g N T f := h.of_block (Below.heap_setCell w a v g hne)

theorem Own.set {w : World} {g N : Nat} {T : TypeId} {f : Nat → Value} (h : Own w g N T f) (o : Nat) (v : Value) : Own (w.setCell ⟨g, o, none⟩ v) g N T (upd f o v) := by
  obtain ⟨arr, h1, h2, h3⟩ := h
  refine ⟨arr.setIfInBounds o v, ?_, by simpa using h2, fun i hi => ?_⟩
  · simp [World.setCell, Array.getElem?_modify, h1]
  · rw [Array.getElem?_setIfInBounds]
    by_cases e : o = i
    · subst e
      rw [if_pos rfl, if_pos (by omega), upd_same]
    · rw [if_neg e, upd_ne _ _ (fun h => e h.symm)]
      exact h3 i hi

/-- A new block. -/
theorem Own.new (w : World) (arr : Array Value) (T : TypeId) : Own (w.alloc (.cells arr T)) w.heap.size arr.size T (fun i => arr.getD i undef) := by
  refine ⟨arr, heap_alloc_new w _, rfl, fun i hi => ?_⟩
  simp [hi]
theorem Own.new' (w : World) (arr : Array Value) (T : TypeId) {N : Nat} (h : arr.size = N) : ∃ f, Own (w.alloc (.cells arr T)) w.heap.size N T f := ⟨_, h ▸ Own.new w arr T⟩

theorem Own.congr {w : World} {g N : Nat} {T : TypeId} {f f' : Nat → Value} (h : Own w g N T f) (e : ∀ i, i < N → f i = f' i) : Own w g N T f' := by
  obtain ⟨arr, h1, h2, h3⟩ := h
  exact ⟨arr, h1, h2, fun i hi => by rw [h3 i hi, e i hi]⟩


/-- The first j bytes of the new buffer (block w5.heap.size, N cells) are laid; nothing older was touched. -/
structure LoopB (w5 wr : World) (N j : Nat) (x : Nat → Int) : Prop where
  own : ∃ f, Own wr w5.heap.size N 5 f ∧ ∀ i, i < j → f i = .int .u8 (x i)
  bel : Below w5.heap.size w5 wr
theorem LoopB.start (w5 : World) (N : Nat) (x : Nat → Int) (arr : Array Value) (h : arr.size = N) : LoopB w5 (w5.alloc (.cells arr 5)) N 0 x := by
  obtain ⟨f, hf⟩ := Own.new' w5 arr 5 h
  exact ⟨⟨f, hf, fun i hi => absurd hi (Nat.not_lt_zero i)⟩, (Below.refl _ _).alloc (Nat.le_refl _) _⟩
theorem LoopB.step {w5 wr : World} {N j : Nat} {x : Nat → Int} (h : LoopB w5 wr N j x) (v : Int) (hv : v = x j) : LoopB w5 (wr.setCell ⟨w5.heap.size, j, none⟩ (.int .u8 v)) N (j + 1) x := by
  obtain ⟨⟨f, h1, h2⟩, h3⟩ := h
  refine ⟨⟨_, h1.set j _, fun i hi => ?_⟩, h3.setCell (Nat.le_refl _) _⟩
  by_cases e : i = j
  · subst e; rw [upd_same, hv]
  · rw [upd_ne _ _ e]; exact h2 i (by omega)
theorem loopB_turn {w5 wr : World} {N : Nat} {x : Nat → Int} (h : LoopB w5 wr N N x) (i : Nat) (b : Int) : LoopB w5 (wr.setCell ⟨w5.heap.size, i, none⟩ (.int .u8 b)) N N (turn x i b) := by
  obtain ⟨⟨f, h1, h2⟩, h3⟩ := h
  refine ⟨⟨_, h1.set i _, fun k hk => ?_⟩, h3.setCell (Nat.le_refl _) _⟩
  by_cases e : k = i
  · subst e; rw [upd_same, turn_same]
  · rw [upd_ne _ _ e, turn_ne _ _ e]; exact h2 k hk
theorem LoopB.drew {w5 wr : World} {N j : Nat} {x : Nat → Int} (h : LoopB w5 wr N j x) : LoopB w5 wr.drew N j x := by
  obtain ⟨⟨f, h1, h2⟩, h3⟩ := h
  exact ⟨⟨f, h1.drew, h2⟩, h3.drew⟩
theorem LoopB.keep {w5 wr w' : World} {N j : Nat} {x : Nat → Int} (h : LoopB w5 wr N j x) (hb : Below wr.heap.size wr w') : LoopB w5 w' N j x := by
  obtain ⟨⟨f, h1, h2⟩, h3⟩ := h
  exact ⟨⟨f, h1.keep hb h1.lt, h2⟩, h3.trans (hb.mono (Nat.le_of_lt h1.lt))⟩
theorem LoopB.cell {w5 wr : World} {N j : Nat} {x : Nat → Int} (h : LoopB w5 wr N j x) {i : Nat} (hi : i < N) : ∃ v, wr.cell? ⟨w5.heap.size, i, none⟩ = some v := by
  obtain ⟨⟨f, h1, h2⟩, h3⟩ := h
  exact ⟨_, h1.cell hi⟩
theorem LoopB.frozen {w5 wr : World} {N j : Nat} {x : Nat → Int} (h : LoopB w5 wr N j x) (i : Nat) : wr.frozen? ⟨w5.heap.size, i, none⟩ = false := by
  obtain ⟨⟨f, h1, h2⟩, h3⟩ := h
  exact h1.frozen i
/-- The string that the buffer becomes. -/
theorem loopB_conv {w5 wr : World} {N : Nat} {x : Nat → Int} (h : LoopB w5 wr N N x) (hx : Bytes N x) (cap : Nat) : (convert 25 9 (.slice (some ⟨w5.heap.size, 0, none⟩) N cap)).run Try.prog wr = .ok (.string (mk N x)) wr := by
  obtain ⟨⟨f, h1, h2⟩, h3⟩ := h
  have hl : ((List.range N).map fun i => UInt8.ofNat (x i).toNat).length = N := by simp
  have h := run_convert_bytes_back (P := Try.prog) wr 25 9 5 ⟨w5.heap.size, 0, none⟩ cap ((List.range N).map fun i => UInt8.ofNat (x i).toNat) Try.underlying25 Try.underlying5 Try.underlying9 (fun j hj => by
    have hj' : j < N := by simpa using hj
    have hadd : (⟨w5.heap.size, 0, none⟩ : Addr).add j = ⟨w5.heap.size, j, none⟩ := by unfold Addr.add; split <;> simp_all
    rw [hadd, h1.cell hj', h2 j hj']
    obtain ⟨b0, b1⟩ := hx j hj'
    simp [UInt8.toNat_ofNat']
    omega)
  rw [hl] at h
  exact h
end Go.Proofs.Qxb6003639a
