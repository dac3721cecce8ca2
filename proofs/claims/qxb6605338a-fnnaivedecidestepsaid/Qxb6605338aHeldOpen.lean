/-
  Seat b6605338a. From the reading of the argument to what the walks are told of the tuples held.
-/
import Derived.Test.Qxb6605338aHeld
import Derived.ProofKit
import Derived.Deep.Slices
namespace Go.Proofs.Qxb6605338a
open Go.ChangeShapes Go.WideShapes Go.ChangeAt Go.RowKit Go.Deep
set_option linter.unusedVariables false

theorem Try.cellsOf3 : Try.prog.cellsOf 3 = 1 := by kernel_rfl
theorem Try.cellsOf9 : Try.prog.cellsOf 9 = 1 := by kernel_rfl
theorem Try.cellsOf27 : Try.prog.cellsOf 27 = 1 := by kernel_rfl
theorem Try.cellsOf64 : Try.prog.cellsOf 64 = 1 := by kernel_rfl
theorem Try.cellsOf65 : Try.prog.cellsOf 65 = 1 := by kernel_rfl
theorem Try.cellsOf67 : Try.prog.cellsOf 67 = 3 := by kernel_rfl

section
variable {H : Type} {enc : TypeId × Value → H} {w : World} {spare : Nat → Bool} {held : Bool}

theorem some_of {α : Type} {xs : List α} {i n : Nat} (hl : xs.length = n) (hi : i < n) : ∃ x, xs[i]? = some x := ⟨xs[i]'(by omega), by simp⟩
theorem three_of {l : List Value} (h : l.length = 3) : ∃ a b c, l = [a, b, c] := by
  match l, h with
  | [a, b, c], _ => exact ⟨a, b, c, rfl⟩
theorem shape_of {t e : TypeId} {fuel : Nat} {cs : List Value} {x : DataW H × List MemPlace} (ht : Try.prog.underlying t = some (.slice e)) (h : DataW.trod enc Try.prog w 0 spare held fuel t cs = some x) : ∃ a n c, cs = [.slice a n c] := by
  rcases open_slice ht h with ⟨hcs, _⟩ | ⟨a, len, cap, m, n, D, Pl, hcs, _⟩
  · exact ⟨_, _, _, hcs⟩
  · exact ⟨_, _, _, hcs⟩

/-- A slice of numbers. -/
theorem nums_of {fuel : Nat} {a : Option Addr} {n c : Nat} {x : DataW H × List MemPlace} (h : DataW.trod enc Try.prog w 0 spare held fuel 65 [.slice a n c] = some x) :
    Head a n c ∧ ∃ X : Nat → Int, RowI .u64 w a n X ∧ ∀ q, q < n → 0 ≤ X q ∧ X q < 18446744073709551616 := by
  rcases open_slice1 Try.underlying65 Try.cellsOf27 h with ⟨hcs, _⟩ | ⟨ad, len, cap, m, fu, V, D, Pl, hcs, _, hl, hm, hmm, _, hx⟩
  · simp at hcs
    obtain ⟨rfl, rfl, rfl⟩ := hcs
    exact ⟨⟨Nat.le_refl _, Nat.zero_le _, fun _ => ⟨rfl, rfl⟩⟩, fun _ => 0, .inl rfl, fun q hq => by omega⟩
  · simp at hcs
    obtain ⟨rfl, rfl, rfl⟩ := hcs
    refine ⟨⟨hl, hm, by simp⟩, ?_⟩
    have hle : n ≤ m := by rw [hmm]; split <;> omega
    have key : ∀ i, i < n → ∃ v : Int, w.cell? (ad.add i) = some (.int .u64 v) ∧ 0 ≤ v ∧ v < 18446744073709551616 := by
      intro i hi
      obtain ⟨h1, h2⟩ := hx i (by omega)
      obtain ⟨v, hv, _, hw⟩ := DataW.trod_int Try.underlying27 h2
      simp at hv
      rw [hv] at h1
      refine ⟨v, h1, ?_⟩
      simp [Lit.wf] at hw
      have e1 : IntKind.u64.min = 0 := by decide
      have e2 : IntKind.u64.max = 18446744073709551615 := by decide
      rw [e1, e2] at hw
      omega
    obtain ⟨F, hF⟩ := choose_lt key
    refine ⟨F, ?_, fun q hq => (hF q hq).2⟩
    by_cases hn : n = 0
    · exact .inl hn
    · obtain ⟨b, o, spot⟩ := ad
      have hs : spot = none := by
        have := World.cell?_spot (hF 0 (by omega)).1
        simpa [Addr.add] using this
      subst hs
      refine .inr ⟨b, o, rfl, fun i hi => ?_⟩
      have := (hF i hi).1
      simp only [Addr.add_lit] at this
      exact this

theorem open67 {fuel : Nat} {cs : List Value} {x : DataW H × List MemPlace} (h : DataW.trod enc Try.prog w 0 spare held fuel 67 cs = some x) :
    ∃ (a : Int) (s : ByteArray) (pa : Option Addr) (pn pc : Nat) (X : Nat → Int), cs = [.int .i64 a, .string s, .slice pa pn pc] ∧ s.size ≤ maxLen ∧ Head pa pn pc ∧ RowI .u64 w pa pn X ∧ ∀ q, q < pn → 0 ≤ X q ∧ X q < 18446744073709551616 := by
  obtain ⟨xs, n, _, _, hl, hxl, hf⟩ := DataW.trod_struct Try.underlying67 h
  rw [Try.cellsOf67] at hl
  obtain ⟨c0, c1, c2, rfl⟩ := three_of hl
  have h0 : DataW.trod enc Try.prog w 0 spare held n 3 (List.take (Try.prog.cellsOf 3) (List.drop 0 [c0, c1, c2])) = xs[0]? := hf 0 _ rfl
  have h1 : DataW.trod enc Try.prog w 0 spare held n 9 (List.take (Try.prog.cellsOf 9) (List.drop 1 [c0, c1, c2])) = xs[1]? := hf 1 _ rfl
  have h2 : DataW.trod enc Try.prog w 0 spare held n 65 (List.take (Try.prog.cellsOf 65) (List.drop 2 [c0, c1, c2])) = xs[2]? := hf 2 _ rfl
  obtain ⟨x0, e0⟩ := some_of (i := 0) hxl (by decide)
  obtain ⟨x1, e1⟩ := some_of (i := 1) hxl (by decide)
  obtain ⟨x2, e2⟩ := some_of (i := 2) hxl (by decide)
  rw [e0] at h0
  rw [e1] at h1
  rw [e2] at h2
  simp only [Try.cellsOf3, Try.cellsOf9, Try.cellsOf65, List.drop, List.take] at h0 h1 h2
  obtain ⟨a, ha, _⟩ := DataW.trod_int Try.underlying3 h0
  obtain ⟨s, hs, _, hv⟩ := DataW.trod_string Try.underlying9 h1
  obtain ⟨pa, pn, pc, hp⟩ := shape_of Try.underlying65 h2
  simp at ha hs hp
  subst ha hs hp
  obtain ⟨r1, X, r2, r3⟩ := nums_of h2
  exact ⟨_, _, _, _, _, X, rfl, hv, r1, r2, r3⟩

/-- A slice of tuples. -/
theorem tups_of {fuel : Nat} {a : Option Addr} {n c : Nat} {x : DataW H × List MemPlace} (h : DataW.trod enc Try.prog w 0 spare held fuel 64 [.slice a n c] = some x) :
    Head a n c ∧ ∃ (A : Nat → Int) (V : Nat → ByteArray) (xa : Nat → Option Addr) (xn xc : Nat → Nat) (X : Nat → Nat → Int), RowT w a n A V xa xn xc ∧ ∀ i, i < n → (V i).size ≤ maxLen ∧ Head (xa i) (xn i) (xc i) ∧ RowI .u64 w (xa i) (xn i) (X i) ∧ ∀ q, q < xn i → 0 ≤ X i q ∧ X i q < 18446744073709551616 := by
  rcases open_slice Try.underlying64 h with ⟨hcs, _⟩ | ⟨ad, len, cap, m, fu, D, Pl, hcs, _, hl, hm, hmm, _, hx⟩
  · simp at hcs
    obtain ⟨rfl, rfl, rfl⟩ := hcs
    exact ⟨⟨Nat.le_refl _, Nat.zero_le _, fun _ => ⟨rfl, rfl⟩⟩, fun _ => 0, fun _ => ByteArray.empty, fun _ => none, fun _ => 0, fun _ => 0, fun _ _ => 0, .inl rfl, fun i hi => by omega⟩
  · simp at hcs
    obtain ⟨rfl, rfl, rfl⟩ := hcs
    refine ⟨⟨hl, hm, by simp⟩, ?_⟩
    have hle : n ≤ m := by rw [hmm]; split <;> omega
    have key : ∀ i, i < n → ∃ v : Int × ByteArray × Option Addr × Nat × Nat × (Nat → Int), w.cell? ((ad.add (i * 3)).add 0) = some (.int .i64 v.1) ∧ w.cell? ((ad.add (i * 3)).add 1) = some (.string v.2.1) ∧
        w.cell? ((ad.add (i * 3)).add 2) = some (.slice v.2.2.1 v.2.2.2.1 v.2.2.2.2.1) ∧ v.2.1.size ≤ maxLen ∧ Head v.2.2.1 v.2.2.2.1 v.2.2.2.2.1 ∧ RowI .u64 w v.2.2.1 v.2.2.2.1 v.2.2.2.2.2 ∧ ∀ q, q < v.2.2.2.1 → 0 ≤ v.2.2.2.2.2 q ∧ v.2.2.2.2.2 q < 18446744073709551616 := by
      intro i hi
      obtain ⟨cs', h1, h2⟩ := hx i (by omega)
      rw [Try.cellsOf67] at h1
      obtain ⟨va, vs, pa, pn, pc, X, rfl, r0, r1, r2, r3⟩ := open67 h2
      obtain ⟨_, _, h3⟩ := World.cells?_some h1
      exact ⟨(va, vs, pa, pn, pc, X), h3 0 (by omega), h3 1 (by omega), h3 2 (by omega), r0, r1, r2, r3⟩
    haveI : Inhabited (Int × ByteArray × Option Addr × Nat × Nat × (Nat → Int)) := ⟨(0, ByteArray.empty, none, 0, 0, fun _ => 0)⟩
    obtain ⟨F, hF⟩ := choose_lt key
    refine ⟨fun i => (F i).1, fun i => (F i).2.1, fun i => (F i).2.2.1, fun i => (F i).2.2.2.1, fun i => (F i).2.2.2.2.1, fun i => (F i).2.2.2.2.2, ?_, fun i hi => (hF i hi).2.2.2⟩
    by_cases hn : n = 0
    · exact .inl hn
    · obtain ⟨b, o, spot⟩ := ad
      have hs : spot = none := by
        have := World.cell?_spot (hF 0 (by omega)).1
        simpa [Addr.add] using this
      subst hs
      refine .inr ⟨b, o, rfl, fun i hi => ?_⟩
      have := hF i hi
      simp only [Addr.add_lit, Nat.add_zero] at this
      exact ⟨this.1, this.2.1, this.2.2.1⟩

/-- A row, as one value. -/
structure Rw where
  a : Option Addr
  n : Nat
  c : Nat
  A : Nat → Int
  V : Nat → ByteArray
  xa : Nat → Option Addr
  xn : Nat → Nat
  xc : Nat → Nat
  X : Nat → Nat → Int

/-- What is held. -/
theorem held_of {fuel : Nat} {a : Option Addr} {n c : Nat} {x : DataW H × List MemPlace} (h : DataW.trod enc Try.prog w 0 spare held fuel 51 [.slice a n c] = some x) : ∃ L : Held, L.a = a ∧ L.n = n ∧ L.c = c ∧ IsHeld w L ∧ Fit L := by
  rcases open_slice1 Try.underlying51 Try.cellsOf64 h with ⟨hcs, _⟩ | ⟨ad, len, cap, m, fu, V, D, Pl, hcs, _, hl, hm, hmm, _, hx⟩
  · simp at hcs
    obtain ⟨rfl, rfl, rfl⟩ := hcs
    exact ⟨⟨none, 0, 0, fun _ => none, fun _ => 0, fun _ => 0, fun _ _ => 0, fun _ _ => ByteArray.empty, fun _ _ => none, fun _ _ => 0, fun _ _ => 0, fun _ _ _ => 0⟩, rfl, rfl, rfl,
      ⟨.inl rfl, fun i hi => absurd hi (Nat.not_lt_zero _), fun i hi => absurd hi (Nat.not_lt_zero _)⟩, ⟨⟨Nat.le_refl _, Nat.zero_le _, fun _ => ⟨rfl, rfl⟩⟩, fun i hi => absurd hi (Nat.not_lt_zero _), fun i hi => absurd hi (Nat.not_lt_zero _), fun i hi => absurd hi (Nat.not_lt_zero _), fun i hi => absurd hi (Nat.not_lt_zero _)⟩⟩
  · simp at hcs
    obtain ⟨rfl, rfl, rfl⟩ := hcs
    have hle : n ≤ m := by rw [hmm]; split <;> omega
    have key : ∀ i, i < n → ∃ v : Rw, w.cell? (ad.add i) = some (.slice v.a v.n v.c) ∧ Head v.a v.n v.c ∧ RowT w v.a v.n v.A v.V v.xa v.xn v.xc ∧
        ∀ j, j < v.n → (v.V j).size ≤ maxLen ∧ Head (v.xa j) (v.xn j) (v.xc j) ∧ RowI .u64 w (v.xa j) (v.xn j) (v.X j) ∧ ∀ q, q < v.xn j → 0 ≤ v.X j q ∧ v.X j q < 18446744073709551616 := by
      intro i hi
      obtain ⟨h1, h2⟩ := hx i (by omega)
      obtain ⟨ra, rn, rc, hv⟩ := shape_of Try.underlying64 h2
      simp at hv
      rw [hv] at h1 h2
      obtain ⟨r1, A, V, xa, xn, xc, X, r2, r3⟩ := tups_of h2
      exact ⟨⟨ra, rn, rc, A, V, xa, xn, xc, X⟩, h1, r1, r2, r3⟩
    haveI : Inhabited Rw := ⟨⟨none, 0, 0, fun _ => 0, fun _ => ByteArray.empty, fun _ => none, fun _ => 0, fun _ => 0, fun _ _ => 0⟩⟩
    obtain ⟨F, hF⟩ := choose_lt key
    refine ⟨⟨some ad, n, c, fun i => (F i).a, fun i => (F i).n, fun i => (F i).c, fun i => (F i).A, fun i => (F i).V, fun i => (F i).xa, fun i => (F i).xn, fun i => (F i).xc, fun i => (F i).X⟩, rfl, rfl, rfl,
      ⟨?_, fun i hi => (hF i hi).2.2.1, fun i hi j hj => ((hF i hi).2.2.2 j hj).2.2.1⟩, ⟨⟨hl, hm, by simp⟩, fun i hi => (hF i hi).2.1, fun i hi j hj => ((hF i hi).2.2.2 j hj).2.1, fun i hi j hj => ((hF i hi).2.2.2 j hj).1, fun i hi j hj => ((hF i hi).2.2.2 j hj).2.2.2⟩⟩
    by_cases hn : n = 0
    · exact .inl hn
    · obtain ⟨b, o, spot⟩ := ad
      have hs : spot = none := by
        have := World.cell?_spot (hF 0 (by omega)).1
        simpa [Addr.add] using this
      subst hs
      refine .inr ⟨b, o, rfl, fun i hi => ?_⟩
      have := (hF i hi).1
      simp only [Addr.add_lit] at this
      exact this
end
end Go.Proofs.Qxb6605338a
