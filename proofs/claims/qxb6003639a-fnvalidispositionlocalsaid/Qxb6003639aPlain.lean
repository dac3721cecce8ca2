/-
  Seat b6003639a. The plain law: what fits at a position, the repair of a string, a string with one byte turned. No Go here.
-/
import Derived.Test.Qxb6003639aValid
namespace Go.Proofs.Qxb6003639a
open Go.RowKit
set_option linter.unusedVariables false

/-- The string of n bytes x. -/
def mk (n : Nat) (x : Nat → Int) : ByteArray := ⟨((List.range n).map fun i => UInt8.ofNat (x i).toNat).toArray⟩
/-- Is each a byte? -/
def Bytes (n : Nat) (x : Nat → Int) : Prop := ∀ i, i < n → 0 ≤ x i ∧ x i ≤ 255
theorem mk_size (n : Nat) (x : Nat → Int) : (mk n x).size = n := by simp [mk, ByteArray.size]
theorem bt_mk {n : Nat} {x : Nat → Int} (h : Bytes n x) {i : Nat} (hi : i < n) : bt (mk n x) i = x i := by
  obtain ⟨h0, h1⟩ := h i hi
  have e : ((List.range n).map fun i => UInt8.ofNat (x i).toNat).getD i 0 = UInt8.ofNat (x i).toNat := by
    simp [List.getD_eq_getElem?_getD, hi]
  unfold bt mk
  simp only [e]
  have h2 : (x i).toNat < 256 := by omega
  have e2 : (UInt8.ofNat (x i).toNat).toNat = (x i).toNat := by
    simp [UInt8.toNat_ofNat']
    omega
  rw [e2]
  omega
/-- Strings of the same length and bytes are one. -/
theorem str_ext {a b : ByteArray} (h : a.size = b.size) (hb : ∀ i, i < a.size → bt a i = bt b i) : a = b := by
  apply ByteArray.ext_getElem h
  intro i h1 h2
  have e := hb i h1
  rw [← bt_at a i h1, ← bt_at b i h2] at e
  exact UInt8.toNat_inj.1 (by omega)

/-- One byte turned. -/
def turn (x : Nat → Int) (i : Nat) (b : Int) : Nat → Int := fun k => if k = i then b else x k
theorem turn_same (x : Nat → Int) (i : Nat) (b : Int) : turn x i b i = b := if_pos rfl
theorem turn_ne (x : Nat → Int) {i k : Nat} (b : Int) (h : k ≠ i) : turn x i b k = x k := if_neg h
theorem turn_bytes {n : Nat} {x : Nat → Int} (h : Bytes n x) (i : Nat) {b : Int} (h0 : 0 ≤ b) (h1 : b ≤ 255) : Bytes n (turn x i b) := by
  intro k hk
  by_cases e : k = i
  · subst e; rw [turn_same]; exact ⟨h0, h1⟩
  · rw [turn_ne _ _ e]; exact h k hk

theorem valid_mk {n : Nat} {x : Nat → Int} (h : Bytes n x) : validB (mk n x) = (decide (n = 36) && allB (fun i => okB i (x i)) 36) := by
  unfold validB
  rw [mk_size]
  by_cases e : n = 36
  · subst e
    congr 1
    apply Bool.eq_iff_iff.2
    rw [allB_iff, allB_iff]
    constructor
    · intro hh i hi; have := hh i hi; rwa [bt_mk h hi] at this
    · intro hh i hi; have := hh i hi; rwa [bt_mk h hi]
  · simp [e]

/-- The template's bytes. -/
def tp (i : Nat) : Int := if i = 8 ∨ i = 13 ∨ i = 18 ∨ i = 23 then 45 else if i = 14 then 55 else if i = 19 then 56 else 48
theorem tp_bytes (n : Nat) : Bytes n tp := by
  intro i _
  unfold tp
  split
  · omega
  · split
    · omega
    · split <;> omega
theorem tp_ok (i : Nat) : okB i (tp i) = true := by
  unfold okB tp
  split
  · rfl
  · split
    · rfl
    · split <;> rfl

theorem valid_fits {j : Nat} (hj : j < 36) {c : Int} (h0 : 0 ≤ c) (h1 : c ≤ 255) : validB (mk 36 (turn tp j c)) = okB j c := by
  rw [valid_mk (turn_bytes (tp_bytes 36) j h0 h1)]
  cases e : okB j c with
  | false => rw [allB_false hj (by show okB j (turn tp j c j) = false; rw [turn_same]; exact e)]; rfl
  | true =>
    have : allB (fun i => okB i (turn tp j c i)) 36 = true := by
      rw [allB_iff]
      intro i hi
      by_cases d : i = j
      · subst d; rw [turn_same]; exact e
      · rw [turn_ne _ _ d]; exact tp_ok i
    rw [this]; rfl

/-- The repair's bytes. -/
def rp (s : ByteArray) (j : Nat) : Int := if (decide (j < s.size) && okB j (bt s j)) = true then bt s j else tp j
theorem rp_bytes (s : ByteArray) (n : Nat) : Bytes n (rp s) := by
  intro i hi
  unfold rp
  split
  · exact bt_bd s i
  · exact tp_bytes n i hi
theorem rp_keep {s : ByteArray} {j : Nat} (h : (decide (j < s.size) && okB j (bt s j)) = true) : rp s j = bt s j := if_pos h
theorem rp_tp {s : ByteArray} {j : Nat} (h : (decide (j < s.size) && okB j (bt s j)) = false) : rp s j = tp j := if_neg (by rw [h]; decide)
theorem rp_ok (s : ByteArray) (j : Nat) : okB j (rp s j) = true := by
  cases h : (decide (j < s.size) && okB j (bt s j)) with
  | true => rw [rp_keep h]; exact (Bool.and_eq_true_iff.1 h).2
  | false => rw [rp_tp h]; exact tp_ok j
/-- The repair is accepted. -/
theorem valid_rp (s : ByteArray) : validB (mk 36 (rp s)) = true := by
  rw [valid_mk (rp_bytes s 36), Bool.and_eq_true_iff]
  exact ⟨rfl, allB_iff.2 fun i _ => rp_ok s i⟩
/-- Accepted exactly where it is its own repair. -/
theorem valid_self (s : ByteArray) : validB s = true ↔ s = mk 36 (rp s) := by
  constructor
  · intro h
    have h' := h
    unfold validB at h'
    rw [Bool.and_eq_true_iff, decide_eq_true_eq, allB_iff] at h'
    obtain ⟨h1, h2⟩ := h'
    refine str_ext (by rw [mk_size, h1]) fun i hi => ?_
    rw [bt_mk (rp_bytes s 36) (by omega), rp_keep]
    rw [Bool.and_eq_true_iff]
    exact ⟨decide_eq_true hi, h2 i (by omega)⟩
  · intro h
    rw [h]
    exact valid_rp s

/-- What uvFits answers. -/
def fits (i : Nat) (c : Int) : Bool := decide (i < 36) && okB i c

theorem bt_bytes (s : ByteArray) (n : Nat) : Bytes n (bt s) := fun i _ => bt_bd s i
theorem valid_turn (s : ByteArray) (i : Nat) (hi : i < s.size) (b : Int) (h0 : 0 ≤ b) (h1 : b ≤ 255) :
    validB (mk s.size (turn (bt s) i b)) = (decide (s.size = 36) && allB (fun k => okB k (turn (bt s) i b k)) 36) := valid_mk (turn_bytes (bt_bytes s _) i h0 h1)

/-- A one-byte edit between two fitting bytes keeps the answer. -/
theorem law1 (s : ByteArray) (i : Nat) (hi : i < s.size) (b : Int) (h0 : 0 ≤ b) (h1 : b ≤ 255) (hs : fits i (bt s i) = true) (hb : fits i b = true) :
    validB (mk s.size (turn (bt s) i b)) = validB s := by
  rw [valid_turn s i hi b h0 h1]
  unfold validB
  congr 1
  obtain ⟨_, hs⟩ := Bool.and_eq_true_iff.1 hs
  obtain ⟨_, hb⟩ := Bool.and_eq_true_iff.1 hb
  apply Bool.eq_iff_iff.2
  rw [allB_iff, allB_iff]
  constructor
  · intro hh k hk
    by_cases e : k = i
    · subst e; exact hs
    · have := hh k hk; rwa [turn_ne _ _ e] at this
  · intro hh k hk
    by_cases e : k = i
    · subst e; rw [turn_same]; exact hb
    · rw [turn_ne _ _ e]; exact hh k hk
/-- In a 36-byte string the edit is accepted only where the new byte fits. -/
theorem law2 (s : ByteArray) (i : Nat) (hi : i < s.size) (b : Int) (h0 : 0 ≤ b) (h1 : b ≤ 255) (h36 : s.size = 36) (hb : fits i b = false) :
    validB (mk s.size (turn (bt s) i b)) = false := by
  rw [valid_turn s i hi b h0 h1]
  have hb' : okB i b = false := by
    unfold fits at hb
    rw [decide_eq_true (by omega : i < 36)] at hb
    simpa using hb
  rw [allB_false (k := i) (by omega) (by show okB i (turn (bt s) i b i) = false; rw [turn_same]; exact hb')]
  simp
/-- From an accepted string the edit is accepted exactly where the new byte fits. -/
theorem law3 (s : ByteArray) (i : Nat) (hi : i < s.size) (b : Int) (h0 : 0 ≤ b) (h1 : b ≤ 255) (hv : validB s = true) :
    validB (mk s.size (turn (bt s) i b)) = fits i b := by
  have hv' := hv
  unfold validB at hv'
  rw [Bool.and_eq_true_iff, decide_eq_true_eq, allB_iff] at hv'
  obtain ⟨h36, hall⟩ := hv'
  cases hb : fits i b with
  | false => exact law2 s i hi b h0 h1 h36 hb
  | true =>
    rw [law1 s i hi b h0 h1 _ hb, hv]
    unfold fits
    rw [Bool.and_eq_true_iff]
    exact ⟨decide_eq_true (by omega), hall i (by omega)⟩
end Go.Proofs.Qxb6003639a
