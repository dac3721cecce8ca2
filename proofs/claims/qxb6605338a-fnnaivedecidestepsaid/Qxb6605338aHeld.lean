/-
  Seat b6605338a. What the walks are told of the tuples held: rows of slices, rows of tuples, rows of numbers; the list of those that hold one tuple.
-/
import Derived.Test.Qxb6605338aOwn
namespace Go.Proofs.Qxb6605338a
open Go.RowKit
set_option linter.unusedVariables false

theorem veil {p : Prop} (h : p) : Hid p := h
/-- Some bool came back. -/
def SomeBool (e : Ending) : Prop := ∃ r : Bool, e = .returned (.bool r)

/-- A row of n slices. -/
def RowS (w : World) (a : Option Addr) (n : Nat) (ra : Nat → Option Addr) (rn rc : Nat → Nat) : Prop :=
  n = 0 ∨ ∃ b o, a = some ⟨b, o, none⟩ ∧ ∀ i, i < n → w.cell? ⟨b, o + i, none⟩ = some (.slice (ra i) (rn i) (rc i))
/-- A row of n tuples (an integer, a string, a slice). -/
def RowT (w : World) (a : Option Addr) (n : Nat) (A : Nat → Int) (V : Nat → ByteArray) (xa : Nat → Option Addr) (xn xc : Nat → Nat) : Prop :=
  n = 0 ∨ ∃ b o, a = some ⟨b, o, none⟩ ∧ ∀ i, i < n → w.cell? ⟨b, o + i * 3, none⟩ = some (.int .i64 (A i)) ∧ w.cell? ⟨b, o + i * 3 + 1, none⟩ = some (.string (V i)) ∧ w.cell? ⟨b, o + i * 3 + 2, none⟩ = some (.slice (xa i) (xn i) (xc i))
/-- A row of n integers. -/
def RowI (k : IntKind) (w : World) (a : Option Addr) (n : Nat) (X : Nat → Int) : Prop :=
  n = 0 ∨ ∃ b o, a = some ⟨b, o, none⟩ ∧ ∀ i, i < n → w.cell? ⟨b, o + i, none⟩ = some (.int k (X i))

/-- The blocks from lo to hi are as they were. -/
def SameIn (lo hi : Nat) (w w' : World) : Prop := ∀ k, lo ≤ k → k < hi → w'.heap[k]? = w.heap[k]?
def Within (lo hi : Nat) (a : Option Addr) : Prop := ∀ x, a = some x → lo ≤ x.block ∧ x.block < hi
theorem Within.mono {lo hi lo' hi' : Nat} {a : Option Addr} (h : Within lo hi a) (h1 : lo' ≤ lo) (h2 : hi ≤ hi') : Within lo' hi' a := fun x hx => ⟨Nat.le_trans h1 (h x hx).1, Nat.lt_of_lt_of_le (h x hx).2 h2⟩
theorem SameIn.of_below {B : Nat} {w w' : World} (h : Below B w w') : SameIn 0 B w w' := fun k _ hk => h.block k hk
theorem SameIn.mono {lo hi lo' hi' : Nat} {w w' : World} (h : SameIn lo hi w w') (h1 : lo ≤ lo') (h2 : hi' ≤ hi) : SameIn lo' hi' w w' := fun k h3 h4 => h k (by omega) (by omega)
theorem SameIn.trans {lo hi : Nat} {w w1 w2 : World} (h : SameIn lo hi w w1) (h' : SameIn lo hi w1 w2) : SameIn lo hi w w2 := fun k h3 h4 => (h' k h3 h4).trans (h k h3 h4)
theorem SameIn.of_but {g lo hi : Nat} {w w' : World} (h : SameBut g w w') (hg : g < lo ∨ hi ≤ g) : SameIn lo hi w w' := fun k h1 h2 => h k (by omega)

theorem RowS.sameIn {lo hi : Nat} {W w' : World} (hs : SameIn lo hi W w') {a : Option Addr} {n : Nat} {ra : Nat → Option Addr} {rn rc : Nat → Nat} (hw : Within lo hi a) (h : RowS W a n ra rn rc) : RowS w' a n ra rn rc := by
  rcases h with h | ⟨b, o, rfl, h⟩
  · exact .inl h
  · have e : ∀ o', w'.cell? ⟨b, o', none⟩ = W.cell? ⟨b, o', none⟩ := fun o' => World.cell?_of_block (w := W) (hs b (hw _ rfl).1 (hw _ rfl).2)
    exact .inr ⟨b, o, rfl, fun i hi => by rw [e]; exact h i hi⟩
theorem RowT.sameIn {lo hi : Nat} {W w' : World} (hs : SameIn lo hi W w') {a : Option Addr} {n : Nat} {A : Nat → Int} {V : Nat → ByteArray} {xa : Nat → Option Addr} {xn xc : Nat → Nat} (hw : Within lo hi a) (h : RowT W a n A V xa xn xc) : RowT w' a n A V xa xn xc := by
  rcases h with h | ⟨b, o, rfl, h⟩
  · exact .inl h
  · have e : ∀ o', w'.cell? ⟨b, o', none⟩ = W.cell? ⟨b, o', none⟩ := fun o' => World.cell?_of_block (w := W) (hs b (hw _ rfl).1 (hw _ rfl).2)
    exact .inr ⟨b, o, rfl, fun i hi => by rw [e, e, e]; exact h i hi⟩
theorem RowI.sameIn {lo hi : Nat} {k : IntKind} {W w' : World} (hs : SameIn lo hi W w') {a : Option Addr} {n : Nat} {X : Nat → Int} (hw : Within lo hi a) (h : RowI k W a n X) : RowI k w' a n X := by
  rcases h with h | ⟨b, o, rfl, h⟩
  · exact .inl h
  · have e : ∀ o', w'.cell? ⟨b, o', none⟩ = W.cell? ⟨b, o', none⟩ := fun o' => World.cell?_of_block (w := W) (hs b (hw _ rfl).1 (hw _ rfl).2)
    exact .inr ⟨b, o, rfl, fun i hi => by rw [e]; exact h i hi⟩
theorem RowS.keep {W w' : World} (hb : Below W.heap.size W w') {a : Option Addr} {n : Nat} {ra : Nat → Option Addr} {rn rc : Nat → Nat} (h : RowS W a n ra rn rc) : RowS w' a n ra rn rc := by
  rcases h with h | ⟨b, o, ha, h⟩
  · exact .inl h
  · exact .inr ⟨b, o, ha, fun i hi => Qxb6605338a.keep hb (h i hi)⟩
theorem RowT.keep {W w' : World} (hb : Below W.heap.size W w') {a : Option Addr} {n : Nat} {A : Nat → Int} {V : Nat → ByteArray} {xa : Nat → Option Addr} {xn xc : Nat → Nat} (h : RowT W a n A V xa xn xc) : RowT w' a n A V xa xn xc := by
  rcases h with h | ⟨b, o, ha, h⟩
  · exact .inl h
  · exact .inr ⟨b, o, ha, fun i hi => ⟨Qxb6605338a.keep hb (h i hi).1, Qxb6605338a.keep hb (h i hi).2.1, Qxb6605338a.keep hb (h i hi).2.2⟩⟩
theorem RowI.keep {k : IntKind} {W w' : World} (hb : Below W.heap.size W w') {a : Option Addr} {n : Nat} {X : Nat → Int} (h : RowI k W a n X) : RowI k w' a n X := by
  rcases h with h | ⟨b, o, ha, h⟩
  · exact .inl h
  · exact .inr ⟨b, o, ha, fun i hi => Qxb6605338a.keep hb (h i hi)⟩

/-- What is held. -/
structure Held where
  a : Option Addr
  n : Nat
  c : Nat
  ra : Nat → Option Addr
  rn : Nat → Nat
  rc : Nat → Nat
  A : Nat → Nat → Int
  V : Nat → Nat → ByteArray
  xa : Nat → Nat → Option Addr
  xn : Nat → Nat → Nat
  xc : Nat → Nat → Nat
  X : Nat → Nat → Nat → Int

structure IsHeld (w : World) (H : Held) : Prop where
  rows : RowS w H.a H.n H.ra H.rn H.rc
  tups : ∀ i, i < H.n → RowT w (H.ra i) (H.rn i) (H.A i) (H.V i) (H.xa i) (H.xn i) (H.xc i)
  nums : ∀ i, i < H.n → ∀ j, j < H.rn i → RowI .u64 w (H.xa i j) (H.xn i j) (H.X i j)
theorem IsHeld.keep {W w' : World} (hb : Below W.heap.size W w') {H : Held} (h : IsHeld W H) : IsHeld w' H :=
  ⟨h.rows.keep hb, fun i hi => (h.tups i hi).keep hb, fun i hi j hj => (h.nums i hi j hj).keep hb⟩

/-- Its lengths. -/
structure Fit (H : Held) : Prop where
  h : Head H.a H.n H.c
  rh : ∀ i, i < H.n → Head (H.ra i) (H.rn i) (H.rc i)
  xh : ∀ i, i < H.n → ∀ j, j < H.rn i → Head (H.xa i j) (H.xn i j) (H.xc i j)
  vl : ∀ i, i < H.n → ∀ j, j < H.rn i → (H.V i j).size ≤ maxLen
  rg : ∀ i, i < H.n → ∀ j, j < H.rn i → ∀ q, q < H.xn i j → 0 ≤ H.X i j q ∧ H.X i j q < 18446744073709551616
structure Small (H : Held) : Prop where
  n : H.n ≤ 1048576
  rn : ∀ i, i < H.n → H.rn i ≤ 1048576
  xn : ∀ i, i < H.n → ∀ j, j < H.rn i → H.xn i j ≤ 1048576

/-! ### Those that hold one tuple -/
def cl (rn : Nat → Nat) : Nat → List Nat
  | 0 => []
  | k + 1 => if rn k = 1 then cl rn k ++ [k] else cl rn k
theorem cl_one {rn : Nat → Nat} {k : Nat} (h : rn k = 1) : cl rn (k + 1) = cl rn k ++ [k] := if_pos h
theorem cl_not {rn : Nat → Nat} {k : Nat} (h : ¬ rn k = 1) : cl rn (k + 1) = cl rn k := if_neg h
theorem cl_len (rn : Nat → Nat) (k : Nat) : (cl rn k).length ≤ k := by
  induction k with
  | zero => simp [cl]
  | succ k ih =>
    by_cases h : rn k = 1
    · rw [cl_one h]; simp; omega
    · rw [cl_not h]; omega
theorem cl_mem {rn : Nat → Nat} {k j : Nat} (h : j ∈ cl rn k) : j < k ∧ rn j = 1 := by
  induction k with
  | zero => simp [cl] at h
  | succ k ih =>
    by_cases e : rn k = 1
    · rw [cl_one e] at h
      simp at h
      rcases h with h | rfl
      · exact ⟨by have := (ih h).1; omega, (ih h).2⟩
      · exact ⟨by omega, e⟩
    · rw [cl_not e] at h
      exact ⟨by have := (ih h).1; omega, (ih h).2⟩
/-- Candidate number i. -/
def cand (rn : Nat → Nat) (n i : Nat) : Nat := (cl rn n).getD i 0
theorem cand_mem {rn : Nat → Nat} {n i : Nat} (h : i < (cl rn n).length) : cand rn n i < n ∧ rn (cand rn n i) = 1 := by
  apply cl_mem
  unfold cand
  simp [h]
theorem cand_prefix {rn : Nat → Nat} {n i j : Nat} (hj : j ≤ n) (h : i < (cl rn j).length) : cand rn n i = cand rn j i := by
  induction n with
  | zero => have : j = 0 := by omega
            rw [this]
  | succ n ih =>
    by_cases e : j = n + 1
    · rw [e]
    · rw [← ih (by omega)]
      have hl : i < (cl rn n).length := by
        have : ∀ m, (cl rn j).length ≤ (cl rn (j + m)).length := by
          intro m
          induction m with
          | zero => exact Nat.le_refl _
          | succ m ih2 =>
            rw [← Nat.add_assoc]
            by_cases e2 : rn (j + m) = 1
            · rw [cl_one e2]; simp; omega
            · rw [cl_not e2]; exact ih2
        have := this (n - j)
        rw [show j + (n - j) = n by omega] at this
        omega
      by_cases e2 : rn n = 1
      · unfold cand; rw [cl_one e2]; simp [List.getElem?_append, hl]
      · unfold cand; rw [cl_not e2]
theorem cand_last {rn : Nat → Nat} {j : Nat} (h : rn j = 1) : cand rn (j + 1) (cl rn j).length = j := by
  unfold cand; rw [cl_one h]; simp
theorem cl_mono {rn : Nat → Nat} {j n : Nat} (h : j ≤ n) : (cl rn j).length ≤ (cl rn n).length := by
  induction n with
  | zero => have : j = 0 := by omega
            rw [this]; exact Nat.le_refl _
  | succ n ih =>
    by_cases e : j = n + 1
    · rw [e]; exact Nat.le_refl _
    · have := ih (by omega)
      by_cases e2 : rn n = 1
      · rw [cl_one e2]; simp; omega
      · rw [cl_not e2]; exact this

/-! ### The sums -/
/-- The sum of the residues. -/
def rsum (x : Nat → Int) (k : Int) : Nat → Int
  | 0 => 0
  | i + 1 => rsum x k i + x i % k
theorem rsum_bd (x : Nat → Int) {k : Int} (hk : 0 < k) (i : Nat) : 0 ≤ rsum x k i ∧ rsum x k i ≤ i * k := by
  induction i with
  | zero => simp [rsum]
  | succ i ih =>
    have h1 := Int.emod_nonneg (x i) (show k ≠ 0 by omega)
    have h2 := Int.emod_lt_of_pos (x i) hk
    simp only [rsum]
    refine ⟨by omega, ?_⟩
    have : ((i + 1 : Nat) : Int) * k = i * k + k := by rw [Int.natCast_add, Int.add_mul]; simp
    omega
theorem rsum_mod (x : Nat → Int) {k : Int} (i : Nat) : rsum x k (i + 1) % k = (rsum x k i % k + x i % k) % k := by
  simp only [rsum]
  rw [Int.add_emod, Int.emod_emod]
theorem rsum_congr {x y : Nat → Int} {k : Int} {i : Nat} (h : ∀ j, j < i → x j = y j) : rsum x k i = rsum y k i := by
  induction i with
  | zero => rfl
  | succ i ih => simp only [rsum]; rw [ih (fun j hj => h j (by omega)), h i (by omega)]
end Go.Proofs.Qxb6605338a
