/-
  Seat b6605338a. A block of the call's own, known whole: 'Own w g N T f': block g has N cells of type T, not frozen, cell i holds 'f i'.
-/
import Derived.Test.Qxb6605338aMem
namespace Go.Proofs.Qxb6605338a
open Go.RowKit
set_option linter.unusedVariables false

def Own (w : World) (g N : Nat) (T : TypeId) (f : Nat → Value) : Prop :=
  ∃ arr : Array Value, w.heap[g]? = some (.cells arr T (0, 0)) ∧ arr.size = N ∧ ∀ i, i < N → arr[i]? = some (f i)

/-- One cell turned. -/
def upd (f : Nat → Value) (o : Nat) (v : Value) : Nat → Value := fun i => if i = o then v else f i
theorem upd_same (f : Nat → Value) (o : Nat) (v : Value) : upd f o v o = v := if_pos rfl
theorem upd_ne (f : Nat → Value) {o i : Nat} (v : Value) (h : i ≠ o) : upd f o v i = f i := if_neg h

theorem Own.lt {w : World} {g N : Nat} {T : TypeId} {f : Nat → Value} (h : Own w g N T f) : g < w.heap.size := by
  obtain ⟨arr, h1, _⟩ := h
  exact (Array.getElem?_eq_some_iff.1 h1).1

theorem Own.cell {w : World} {g N : Nat} {T : TypeId} {f : Nat → Value} (h : Own w g N T f) {i : Nat} (hi : i < N) : w.cell? ⟨g, i, none⟩ = some (f i) := by
  obtain ⟨arr, h1, h2, h3⟩ := h
  simp only [World.cell?, h1]
  exact h3 i hi

theorem Own.frozen {w : World} {g N : Nat} {T : TypeId} {f : Nat → Value} (h : Own w g N T f) (i : Nat) : w.frozen? ⟨g, i, none⟩ = false := by
  obtain ⟨arr, h1, h2, h3⟩ := h
  simp [World.frozen?, h1]

theorem Own.of_block {w w' : World} {g N : Nat} {T : TypeId} {f : Nat → Value} (h : Own w g N T f) (e : w'.heap[g]? = w.heap[g]?) : Own w' g N T f := by
  obtain ⟨arr, h1, h2, h3⟩ := h
  exact ⟨arr, e.trans h1, h2, h3⟩

theorem Own.keep {w w' : World} {g N B : Nat} {T : TypeId} {f : Nat → Value} (h : Own w g N T f) (hb : Below B w w') (hg : g < B) : Own w' g N T f := h.of_block (hb.block g hg)
theorem Own.drew {w : World} {g N : Nat} {T : TypeId} {f : Nat → Value} (h : Own w g N T f) : Own w.drew g N T f := h.of_block rfl
theorem Own.drewN {w : World} {g N : Nat} {T : TypeId} {f : Nat → Value} (h : Own w g N T f) (q : Nat) : Own (w.drewN q) g N T f := h.of_block rfl
theorem Own.alloc {w : World} {g N : Nat} {T : TypeId} {f : Nat → Value} (h : Own w g N T f) (o : Obj) : Own (w.alloc o) g N T f := h.of_block (Below.heap_alloc w o g h.lt)
theorem Own.grown {w w' : World} {g N : Nat} {T : TypeId} {f : Nat → Value} (h : Own w g N T f) {row : Option Nat} (hg : w.grownBy w' row) (hne : row ≠ some g) : Own w' g N T f := h.of_block (hg.block g h.lt (fun e => hne e.symm))

theorem Own.set_ne {w : World} {g N : Nat} {T : TypeId} {f : Nat → Value} (h : Own w g N T f) {a : Addr} (hne : g ≠ a.block) (v : Value) : Own (w.setCell a v) g N T f := h.of_block (Below.heap_setCell w a v g hne)

theorem Own.set {w : World} {g N : Nat} {T : TypeId} {f : Nat → Value} (h : Own w g N T f) (o : Nat) (v : Value) : Own (w.setCell ⟨g, o, none⟩ v) g N T (upd f o v) := by
  obtain ⟨arr, h1, h2, h3⟩ := h
  refine ⟨arr.setIfInBounds o v, ?_, by simpa using h2, fun i hi => ?_⟩
  · simp [World.setCell, Array.getElem?_modify, h1]
  · rw [Array.getElem?_setIfInBounds]
    by_cases e : o = i
    · subst e
      rw [if_pos rfl, if_pos (by omega), upd_same]
    · rw [if_neg e, upd_ne _ _ (fun h => e h.symm)]
      exact h3 i hi

/-- A new block. -/
theorem Own.new (w : World) (arr : Array Value) (T : TypeId) : Own (w.alloc (.cells arr T)) w.heap.size arr.size T (fun i => arr.getD i undef) := by
  refine ⟨arr, heap_alloc_new w _, rfl, fun i hi => ?_⟩
  simp [hi]
theorem Own.new' (w : World) (arr : Array Value) (T : TypeId) {N : Nat} (h : arr.size = N) : ∃ f, Own (w.alloc (.cells arr T)) w.heap.size N T f := ⟨_, h ▸ Own.new w arr T⟩

theorem Own.congr {w : World} {g N : Nat} {T : TypeId} {f f' : Nat → Value} (h : Own w g N T f) (e : ∀ i, i < N → f i = f' i) : Own w g N T f' := by
  obtain ⟨arr, h1, h2, h3⟩ := h
  exact ⟨arr, h1, h2, fun i hi => by rw [h3 i hi, e i hi]⟩

/-- An owned row (the append laws' word) out of a block known whole. -/
theorem Own.row {w : World} {g N : Nat} {T : TypeId} {f : Nat → Value} (h : Own w g N T f) {base n cap size : Nat} (hb : base ≤ g) (hn : n ≤ cap) (hc : cap ≤ maxLen) (hN : N = cap * size) :
    w.ownsRow base T size (.slice (some ⟨g, 0, none⟩) n cap) n ((List.range (n * size)).map f) := by
  obtain ⟨arr, h1, h2, h3⟩ := h
  refine ⟨by simp, .inr ⟨g, cap, arr, rfl, hb, h1, hn, hc, by omega, ?_⟩⟩
  apply List.ext_getElem?
  intro i
  have hle : n * size ≤ cap * size := Nat.mul_le_mul_right _ hn
  by_cases hi : i < n * size
  · rw [List.getElem?_take_of_lt hi]
    simp only [Array.getElem?_toList, List.getElem?_map]
    rw [h3 i (by omega)]
    simp [hi]
  · simp [hi]
    omega
/-- Three cells of a row of structs. -/
def At3 (f : Nat → Value) (o : Nat) (v0 v1 v2 : Value) : Prop := f o = v0 ∧ f (o + 1) = v1 ∧ f (o + 2) = v2
def upd3 (f : Nat → Value) (o : Nat) (v0 v1 v2 : Value) : Nat → Value := upd (upd (upd f o v0) (o + 1) v1) (o + 2) v2
theorem upd3_at (f : Nat → Value) (o : Nat) (v0 v1 v2 : Value) : At3 (upd3 f o v0 v1 v2) o v0 v1 v2 := by
  refine ⟨?_, ?_, ?_⟩ <;> simp [upd3, upd]
theorem upd3_ne (f : Nat → Value) (o i : Nat) (v0 v1 v2 : Value) (h : i < o ∨ o + 2 < i) : upd3 f o v0 v1 v2 i = f i := by
  simp only [upd3, upd]
  rw [if_neg (by omega), if_neg (by omega), if_neg (by omega)]
theorem Own.set3 {w : World} {g N : Nat} {T : TypeId} {f : Nat → Value} (h : Own w g N T f) (o : Nat) (v0 v1 v2 : Value) :
    Own (((w.setCell ⟨g, o, none⟩ v0).setCell ⟨g, o + 1, none⟩ v1).setCell ⟨g, o + 2, none⟩ v2) g N T (upd3 f o v0 v1 v2) := ((h.set o v0).set (o + 1) v1).set (o + 2) v2
theorem Own.set3_ne {w : World} {g N : Nat} {T : TypeId} {f : Nat → Value} (h : Own w g N T f) {g' : Nat} (hne : g ≠ g') (o : Nat) (v0 v1 v2 : Value) :
    Own (((w.setCell ⟨g', o, none⟩ v0).setCell ⟨g', o + 1, none⟩ v1).setCell ⟨g', o + 2, none⟩ v2) g N T f := ((h.set_ne hne v0).set_ne hne v1).set_ne hne v2
theorem below3 {B : Nat} {a w : World} (h : Below B a w) {g : Nat} (hg : B ≤ g) (o : Nat) (v0 v1 v2 : Value) :
    Below B a (((w.setCell ⟨g, o, none⟩ v0).setCell ⟨g, o + 1, none⟩ v1).setCell ⟨g, o + 2, none⟩ v2) := ((h.setCell hg v0).setCell hg v1).setCell hg v2

/-- The first k structs of the row are written. -/
def Done3 (k0 k1 k2 : IntKind) (f : Nat → Value) (k : Nat) (A B C : Nat → Int) : Prop := ∀ i, i < k → At3 f (i * 3) (.int k0 (A i)) (.int k1 (B i)) (.int k2 (C i))
theorem Done3.step {k0 k1 k2 : IntKind} {f : Nat → Value} {k : Nat} {A B C : Nat → Int} (h : Done3 k0 k1 k2 f k A B C) : Done3 k0 k1 k2 (upd3 f (k * 3) (.int k0 (A k)) (.int k1 (B k)) (.int k2 (C k))) (k + 1) A B C := by
  intro i hi
  by_cases e : i = k
  · subst e; exact upd3_at _ _ _ _ _
  · have := h i (by omega)
    obtain ⟨h0, h1, h2⟩ := this
    refine ⟨?_, ?_, ?_⟩
    · rw [upd3_ne _ _ _ _ _ _ (by omega)]; exact h0
    · rw [upd3_ne _ _ _ _ _ _ (by omega)]; exact h1
    · rw [upd3_ne _ _ _ _ _ _ (by omega)]; exact h2
theorem Done3.row {k0 k1 k2 : IntKind} {w : World} {g n : Nat} {T : TypeId} {f : Nat → Value} {A B C : Nat → Int} (h : Done3 k0 k1 k2 f n A B C) (ho : Own w g (n * 3) T f) : Row3 k0 k1 k2 w (some ⟨g, 0, none⟩) n A B C := by
  refine .inr ⟨g, 0, rfl, fun i hi => ?_⟩
  obtain ⟨h0, h1, h2⟩ := h i hi
  refine ⟨?_, ?_, ?_⟩
  · rw [← h0, Nat.zero_add]; exact ho.cell (by omega)
  · rw [← h1, Nat.zero_add]; exact ho.cell (by omega)
  · rw [← h2, Nat.zero_add]; exact ho.cell (by omega)


/-- Four cells of a row of heard entries. -/
def At4 (f : Nat → Value) (o : Nat) (v0 v1 v2 v3 : Value) : Prop := f o = v0 ∧ f (o + 1) = v1 ∧ f (o + 2) = v2 ∧ f (o + 3) = v3
def upd4 (f : Nat → Value) (o : Nat) (v0 v1 v2 v3 : Value) : Nat → Value := upd (upd (upd (upd f o v0) (o + 1) v1) (o + 2) v2) (o + 3) v3
theorem upd4_at (f : Nat → Value) (o : Nat) (v0 v1 v2 v3 : Value) : At4 (upd4 f o v0 v1 v2 v3) o v0 v1 v2 v3 := by
  refine ⟨?_, ?_, ?_, ?_⟩ <;> simp [upd4, upd]
theorem upd4_ne (f : Nat → Value) (o i : Nat) (v0 v1 v2 v3 : Value) (h : i < o ∨ o + 3 < i) : upd4 f o v0 v1 v2 v3 i = f i := by
  simp only [upd4, upd]
  rw [if_neg (by omega), if_neg (by omega), if_neg (by omega), if_neg (by omega)]
theorem Own.set4 {w : World} {g N : Nat} {T : TypeId} {f : Nat → Value} (h : Own w g N T f) (o : Nat) (v0 v1 v2 v3 : Value) :
    Own ((((w.setCell ⟨g, o, none⟩ v0).setCell ⟨g, o + 1, none⟩ v1).setCell ⟨g, o + 2, none⟩ v2).setCell ⟨g, o + 3, none⟩ v3) g N T (upd4 f o v0 v1 v2 v3) := (((h.set o v0).set (o + 1) v1).set (o + 2) v2).set (o + 3) v3
theorem Own.set4_ne {w : World} {g N : Nat} {T : TypeId} {f : Nat → Value} (h : Own w g N T f) {g' : Nat} (hne : g ≠ g') (o : Nat) (v0 v1 v2 v3 : Value) :
    Own ((((w.setCell ⟨g', o, none⟩ v0).setCell ⟨g', o + 1, none⟩ v1).setCell ⟨g', o + 2, none⟩ v2).setCell ⟨g', o + 3, none⟩ v3) g N T f := (((h.set_ne hne v0).set_ne hne v1).set_ne hne v2).set_ne hne v3
theorem below4 {B : Nat} {a w : World} (h : Below B a w) {g : Nat} (hg : B ≤ g) (o : Nat) (v0 v1 v2 v3 : Value) :
    Below B a ((((w.setCell ⟨g, o, none⟩ v0).setCell ⟨g, o + 1, none⟩ v1).setCell ⟨g, o + 2, none⟩ v2).setCell ⟨g, o + 3, none⟩ v3) := (((h.setCell hg v0).setCell hg v1).setCell hg v2).setCell hg v3

/-- The first k entries of the row are written. -/
def Done4 (f : Nat → Value) (k : Nat) (A B C : Nat → Int) (pa : Nat → Option Addr) (pn pc : Nat → Nat) : Prop := ∀ i, i < k → At4 f (i * 4) (.int .i64 (A i)) (.int .u64 (B i)) (.int .u64 (C i)) (.slice (pa i) (pn i) (pc i))
theorem Done4.step {f : Nat → Value} {k : Nat} {A B C : Nat → Int} {pa pa' : Nat → Option Addr} {pn pc pn' pc' : Nat → Nat} (h : Done4 f k A B C pa pn pc) (he : ∀ i, i < k → pa' i = pa i ∧ pn' i = pn i ∧ pc' i = pc i) :
    Done4 (upd4 f (k * 4) (.int .i64 (A k)) (.int .u64 (B k)) (.int .u64 (C k)) (.slice (pa' k) (pn' k) (pc' k))) (k + 1) A B C pa' pn' pc' := by
  intro i hi
  by_cases e : i = k
  · subst e; exact upd4_at _ _ _ _ _ _
  · obtain ⟨h0, h1, h2, h3⟩ := h i (by omega)
    obtain ⟨e0, e1, e2⟩ := he i (by omega)
    refine ⟨?_, ?_, ?_, ?_⟩
    · rw [upd4_ne _ _ _ _ _ _ _ (by omega)]; exact h0
    · rw [upd4_ne _ _ _ _ _ _ _ (by omega)]; exact h1
    · rw [upd4_ne _ _ _ _ _ _ _ (by omega)]; exact h2
    · rw [upd4_ne _ _ _ _ _ _ _ (by omega), e0, e1, e2]; exact h3
theorem Done4.row {w : World} {g n : Nat} {T : TypeId} {f : Nat → Value} {A B C : Nat → Int} {pa : Nat → Option Addr} {pn pc : Nat → Nat} (h : Done4 f n A B C pa pn pc) (ho : Own w g (n * 4) T f) : Row4 w (some ⟨g, 0, none⟩) n A B C pa pn pc := by
  refine .inr ⟨g, 0, rfl, fun i hi => ?_⟩
  obtain ⟨h0, h1, h2, h3⟩ := h i hi
  refine ⟨?_, ?_, ?_, ?_⟩
  · rw [← h0, Nat.zero_add]; exact ho.cell (by omega)
  · rw [← h1, Nat.zero_add]; exact ho.cell (by omega)
  · rw [← h2, Nat.zero_add]; exact ho.cell (by omega)
  · rw [← h3, Nat.zero_add]; exact ho.cell (by omega)

/-- All blocks but one are as they were. -/
def SameBut (g : Nat) (w w' : World) : Prop := ∀ k, k ≠ g → w'.heap[k]? = w.heap[k]?
theorem SameBut.refl (g : Nat) (w : World) : SameBut g w w := fun _ _ => rfl
theorem SameBut.set {g : Nat} {w w' : World} (h : SameBut g w w') (o : Nat) (v : Value) : SameBut g w (w'.setCell ⟨g, o, none⟩ v) := fun k hk => (Below.heap_setCell w' _ v k hk).trans (h k hk)
theorem SameBut.drew {g : Nat} {w w' : World} (h : SameBut g w w') : SameBut g w w'.drew := h
theorem Row3.same {k0 k1 k2 : IntKind} {g : Nat} {W w' : World} (hs : SameBut g W w') {a : Option Addr} {n : Nat} {A B C : Nat → Int} (hne : ∀ x, a = some x → x.block ≠ g) (h : Row3 k0 k1 k2 W a n A B C) : Row3 k0 k1 k2 w' a n A B C := by
  rcases h with h | ⟨b, o, rfl, h⟩
  · exact .inl h
  · have e : ∀ o', w'.cell? ⟨b, o', none⟩ = W.cell? ⟨b, o', none⟩ := fun o' => World.cell?_of_block (w := W) (hs b (hne _ rfl))
    exact .inr ⟨b, o, rfl, fun i hi => by rw [e, e, e]; exact h i hi⟩
theorem Row4.same {g : Nat} {W w' : World} (hs : SameBut g W w') {a : Option Addr} {n : Nat} {A B C : Nat → Int} {pa : Nat → Option Addr} {pn pc : Nat → Nat} (hne : ∀ x, a = some x → x.block ≠ g) (h : Row4 W a n A B C pa pn pc) : Row4 w' a n A B C pa pn pc := by
  rcases h with h | ⟨b, o, rfl, h⟩
  · exact .inl h
  · have e : ∀ o', w'.cell? ⟨b, o', none⟩ = W.cell? ⟨b, o', none⟩ := fun o' => World.cell?_of_block (w := W) (hs b (hne _ rfl))
    exact .inr ⟨b, o, rfl, fun i hi => by rw [e, e, e, e]; exact h i hi⟩

/-- Rows in blocks below B stay. -/
theorem Row3.keepB {k0 k1 k2 : IntKind} {B0 : Nat} {W w' : World} (hb : Below B0 W w') {a : Option Addr} {n : Nat} {A B C : Nat → Int} (hlt : ∀ x, a = some x → x.block < B0) (h : Row3 k0 k1 k2 W a n A B C) : Row3 k0 k1 k2 w' a n A B C := by
  rcases h with h | ⟨b, o, rfl, h⟩
  · exact .inl h
  · have e : ∀ o', w'.cell? ⟨b, o', none⟩ = W.cell? ⟨b, o', none⟩ := fun o' => World.cell?_of_block (w := W) (hb.block b (hlt _ rfl))
    exact .inr ⟨b, o, rfl, fun i hi => by rw [e, e, e]; exact h i hi⟩
end Go.Proofs.Qxb6605338a
