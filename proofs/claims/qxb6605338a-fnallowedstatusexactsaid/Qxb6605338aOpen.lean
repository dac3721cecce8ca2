/-
  Seat b6605338a. From the reading of the arguments to what the walks are told of memory.
-/
import Derived.Test.Qxb6605338aFrom
import Derived.ProofKit
import Derived.Deep.Slices
namespace Go.Proofs.Qxb6605338a
open Go.ChangeShapes Go.WideShapes Go.ChangeAt Go.RowKit Go.Deep
set_option linter.unusedVariables false

theorem Try.cells3 : Try.prog.cellsOf 3 = 1 := by kernel_rfl
theorem Try.cells9 : Try.prog.cellsOf 9 = 1 := by kernel_rfl
theorem Try.cells26 : Try.prog.cellsOf 26 = 1 := by kernel_rfl
theorem Try.cells27 : Try.prog.cellsOf 27 = 1 := by kernel_rfl
theorem Try.cells43 : Try.prog.cellsOf 43 = 1 := by kernel_rfl
theorem Try.cells44 : Try.prog.cellsOf 44 = 1 := by kernel_rfl
theorem Try.cells46 : Try.prog.cellsOf 46 = 8 := by kernel_rfl
theorem Try.cells70 : Try.prog.cellsOf 70 = 1 := by kernel_rfl
theorem Try.cells72 : Try.prog.cellsOf 72 = 4 := by kernel_rfl
theorem Try.cells74 : Try.prog.cellsOf 74 = 3 := by kernel_rfl
theorem Try.cells76 : Try.prog.cellsOf 76 = 3 := by kernel_rfl

section
variable {H : Type} {enc : TypeId × Value → H} {w : World} {spare : Nat → Bool} {held : Bool}

theorem get_some {α : Type} {xs : List α} {i n : Nat} (hl : xs.length = n) (hi : i < n) : ∃ x, xs[i]? = some x := ⟨xs[i]'(by omega), by simp⟩

theorem len3 {l : List Value} (h : l.length = 3) : ∃ a b c, l = [a, b, c] := by
  match l, h with
  | [a, b, c], _ => exact ⟨a, b, c, rfl⟩
theorem len4 {l : List Value} (h : l.length = 4) : ∃ a b c d, l = [a, b, c, d] := by
  match l, h with
  | [a, b, c, d], _ => exact ⟨a, b, c, d, rfl⟩
theorem len8 {l : List Value} (h : l.length = 8) : ∃ a b c d e f g i, l = [a, b, c, d, e, f, g, i] := by
  match l, h with
  | [a, b, c, d, e, f, g, i], _ => exact ⟨a, b, c, d, e, f, g, i, rfl⟩

theorem open74 {fuel : Nat} {cs : List Value} {x : DataW H × List MemPlace} (h : DataW.trod enc Try.prog w 0 spare held fuel 74 cs = some x) : ∃ a b c, cs = [.int .i64 a, .int .i64 b, .int .i64 c] := by
  obtain ⟨xs, n, _, _, hl, hxl, hf⟩ := DataW.trod_struct Try.underlying74 h
  rw [Try.cells74] at hl
  obtain ⟨c0, c1, c2, rfl⟩ := len3 hl
  · have h0 : DataW.trod enc Try.prog w 0 spare held n 3 (List.take (Try.prog.cellsOf 3) (List.drop 0 [c0, c1, c2])) = xs[0]? := hf 0 _ rfl
    have h1 : DataW.trod enc Try.prog w 0 spare held n 3 (List.take (Try.prog.cellsOf 3) (List.drop 1 [c0, c1, c2])) = xs[1]? := hf 1 _ rfl
    have h2 : DataW.trod enc Try.prog w 0 spare held n 3 (List.take (Try.prog.cellsOf 3) (List.drop 2 [c0, c1, c2])) = xs[2]? := hf 2 _ rfl
    obtain ⟨x0, e0⟩ := get_some (i := 0) hxl (by decide)
    obtain ⟨x1, e1⟩ := get_some (i := 1) hxl (by decide)
    obtain ⟨x2, e2⟩ := get_some (i := 2) hxl (by decide)
    rw [e0] at h0
    rw [e1] at h1
    rw [e2] at h2
    simp only [Try.cells3, List.drop, List.take] at h0 h1 h2
    obtain ⟨a, ha, _⟩ := DataW.trod_int Try.underlying3 h0
    obtain ⟨b, hb, _⟩ := DataW.trod_int Try.underlying3 h1
    obtain ⟨c, hc, _⟩ := DataW.trod_int Try.underlying3 h2
    simp at ha hb hc
    subst ha hb hc
    exact ⟨_, _, _, rfl⟩

theorem open76 {fuel : Nat} {cs : List Value} {x : DataW H × List MemPlace} (h : DataW.trod enc Try.prog w 0 spare held fuel 76 cs = some x) : ∃ a b c, cs = [.int .i64 a, .int .u64 b, .int .u64 c] := by
  obtain ⟨xs, n, _, _, hl, hxl, hf⟩ := DataW.trod_struct Try.underlying76 h
  rw [Try.cells76] at hl
  obtain ⟨c0, c1, c2, rfl⟩ := len3 hl
  · have h0 : DataW.trod enc Try.prog w 0 spare held n 3 (List.take (Try.prog.cellsOf 3) (List.drop 0 [c0, c1, c2])) = xs[0]? := hf 0 _ rfl
    have h1 : DataW.trod enc Try.prog w 0 spare held n 27 (List.take (Try.prog.cellsOf 27) (List.drop 1 [c0, c1, c2])) = xs[1]? := hf 1 _ rfl
    have h2 : DataW.trod enc Try.prog w 0 spare held n 27 (List.take (Try.prog.cellsOf 27) (List.drop 2 [c0, c1, c2])) = xs[2]? := hf 2 _ rfl
    obtain ⟨x0, e0⟩ := get_some (i := 0) hxl (by decide)
    obtain ⟨x1, e1⟩ := get_some (i := 1) hxl (by decide)
    obtain ⟨x2, e2⟩ := get_some (i := 2) hxl (by decide)
    rw [e0] at h0
    rw [e1] at h1
    rw [e2] at h2
    simp only [Try.cells3, Try.cells27, List.drop, List.take] at h0 h1 h2
    obtain ⟨a, ha, _⟩ := DataW.trod_int Try.underlying3 h0
    obtain ⟨b, hb, _⟩ := DataW.trod_int Try.underlying27 h1
    obtain ⟨c, hc, _⟩ := DataW.trod_int Try.underlying27 h2
    simp at ha hb hc
    subst ha hb hc
    exact ⟨_, _, _, rfl⟩

/-- A slice value out of its reading. -/
theorem slice_shape {t e : TypeId} {fuel : Nat} {cs : List Value} {x : DataW H × List MemPlace} (ht : Try.prog.underlying t = some (.slice e)) (h : DataW.trod enc Try.prog w 0 spare held fuel t cs = some x) : ∃ a n c, cs = [.slice a n c] := by
  rcases open_slice ht h with ⟨hcs, _⟩ | ⟨a, len, cap, m, n, D, Pl, hcs, _⟩
  · exact ⟨_, _, _, hcs⟩
  · exact ⟨_, _, _, hcs⟩

/-- A slice of structs of three integers. -/
theorem row3_of {k0 k1 k2 : IntKind} {t e : TypeId} (ht : Try.prog.underlying t = some (.slice e)) (hc : Try.prog.cellsOf e = 3)
    (he : ∀ (fuel : Nat) (cs : List Value) (x : DataW H × List MemPlace), DataW.trod enc Try.prog w 0 spare held fuel e cs = some x → ∃ a b c, cs = [.int k0 a, .int k1 b, .int k2 c])
    {fuel : Nat} {a : Option Addr} {n c : Nat} {x : DataW H × List MemPlace} (h : DataW.trod enc Try.prog w 0 spare held fuel t [.slice a n c] = some x) :
    Head a n c ∧ ∃ A B C, Row3 k0 k1 k2 w a n A B C := by
  rcases open_slice ht h with ⟨hcs, _⟩ | ⟨ad, len, cap, m, fu, D, Pl, hcs, _, hl, hm, hmm, _, hx⟩
  · simp at hcs
    obtain ⟨rfl, rfl, rfl⟩ := hcs
    exact ⟨⟨Nat.le_refl _, Nat.zero_le _, fun _ => ⟨rfl, rfl⟩⟩, fun _ => 0, fun _ => 0, fun _ => 0, .inl rfl⟩
  · simp at hcs
    obtain ⟨rfl, rfl, rfl⟩ := hcs
    refine ⟨⟨hl, hm, by simp⟩, ?_⟩
    have hle : n ≤ m := by rw [hmm]; split <;> omega
    have key : ∀ i, i < n → ∃ v : Int × Int × Int, w.cell? ((ad.add (i * 3)).add 0) = some (.int k0 v.1) ∧ w.cell? ((ad.add (i * 3)).add 1) = some (.int k1 v.2.1) ∧ w.cell? ((ad.add (i * 3)).add 2) = some (.int k2 v.2.2) := by
      intro i hi
      obtain ⟨cs', h1, h2⟩ := hx i (by omega)
      rw [hc] at h1
      obtain ⟨va, vb, vc, rfl⟩ := he _ _ _ h2
      obtain ⟨_, _, h3⟩ := World.cells?_some h1
      exact ⟨(va, vb, vc), h3 0 (by omega), h3 1 (by omega), h3 2 (by omega)⟩
    obtain ⟨F, hF⟩ := choose_lt key
    refine ⟨fun i => (F i).1, fun i => (F i).2.1, fun i => (F i).2.2, ?_⟩
    by_cases hn : n = 0
    · exact .inl hn
    · obtain ⟨b, o, spot⟩ := ad
      have hs : spot = none := by
        have := World.cell?_spot (hF 0 (by omega)).1
        simpa [Addr.add] using this
      subst hs
      refine .inr ⟨b, o, rfl, fun i hi => ?_⟩
      have := hF i hi
      simp only [Addr.add_lit, Nat.add_zero] at this
      exact this

theorem open72 {fuel : Nat} {cs : List Value} {x : DataW H × List MemPlace} (h : DataW.trod enc Try.prog w 0 spare held fuel 72 cs = some x) :
    ∃ a b c pa pn pc, cs = [.int .i64 a, .int .u64 b, .int .u64 c, .slice pa pn pc] ∧ Head pa pn pc ∧ ∃ A B C, Row3 .i64 .u64 .u64 w pa pn A B C := by
  obtain ⟨xs, n, _, _, hl, hxl, hf⟩ := DataW.trod_struct Try.underlying72 h
  rw [Try.cells72] at hl
  obtain ⟨c0, c1, c2, c3, rfl⟩ := len4 hl
  · have h0 : DataW.trod enc Try.prog w 0 spare held n 3 (List.take (Try.prog.cellsOf 3) (List.drop 0 [c0, c1, c2, c3])) = xs[0]? := hf 0 _ rfl
    have h1 : DataW.trod enc Try.prog w 0 spare held n 27 (List.take (Try.prog.cellsOf 27) (List.drop 1 [c0, c1, c2, c3])) = xs[1]? := hf 1 _ rfl
    have h2 : DataW.trod enc Try.prog w 0 spare held n 27 (List.take (Try.prog.cellsOf 27) (List.drop 2 [c0, c1, c2, c3])) = xs[2]? := hf 2 _ rfl
    have h3 : DataW.trod enc Try.prog w 0 spare held n 70 (List.take (Try.prog.cellsOf 70) (List.drop 3 [c0, c1, c2, c3])) = xs[3]? := hf 3 _ rfl
    obtain ⟨x0, e0⟩ := get_some (i := 0) hxl (by decide)
    obtain ⟨x1, e1⟩ := get_some (i := 1) hxl (by decide)
    obtain ⟨x2, e2⟩ := get_some (i := 2) hxl (by decide)
    obtain ⟨x3, e3⟩ := get_some (i := 3) hxl (by decide)
    rw [e0] at h0
    rw [e1] at h1
    rw [e2] at h2
    rw [e3] at h3
    simp only [Try.cells3, Try.cells27, Try.cells70, List.drop, List.take] at h0 h1 h2 h3
    obtain ⟨a, ha, _⟩ := DataW.trod_int Try.underlying3 h0
    obtain ⟨b, hb, _⟩ := DataW.trod_int Try.underlying27 h1
    obtain ⟨c, hc, _⟩ := DataW.trod_int Try.underlying27 h2
    obtain ⟨pa, pn, pc, hp⟩ := slice_shape Try.underlying70 h3
    simp at ha hb hc hp
    subst ha hb hc hp
    obtain ⟨r1, r2⟩ := row3_of Try.underlying70 Try.cells76 (fun _ _ _ h => open76 h) h3
    exact ⟨_, _, _, _, _, _, rfl, r1, r2⟩

theorem row4_of {fuel : Nat} {a : Option Addr} {n c : Nat} {x : DataW H × List MemPlace} (h : DataW.trod enc Try.prog w 0 spare held fuel 44 [.slice a n c] = some x) :
    Head a n c ∧ ∃ (A B C : Nat → Int) (pa : Nat → Option Addr) (pn pc : Nat → Nat) (PA PN PS : Nat → Nat → Int), Row4 w a n A B C pa pn pc ∧ (∀ i, i < n → Head (pa i) (pn i) (pc i)) ∧ ∀ i, i < n → Row3 .i64 .u64 .u64 w (pa i) (pn i) (PA i) (PN i) (PS i) := by
  rcases open_slice Try.underlying44 h with ⟨hcs, _⟩ | ⟨ad, len, cap, m, fu, D, Pl, hcs, _, hl, hm, hmm, _, hx⟩
  · simp at hcs
    obtain ⟨rfl, rfl, rfl⟩ := hcs
    exact ⟨⟨Nat.le_refl _, Nat.zero_le _, fun _ => ⟨rfl, rfl⟩⟩, fun _ => 0, fun _ => 0, fun _ => 0, fun _ => none, fun _ => 0, fun _ => 0, fun _ _ => 0, fun _ _ => 0, fun _ _ => 0, .inl rfl, fun i hi => by omega, fun i hi => by omega⟩
  · simp at hcs
    obtain ⟨rfl, rfl, rfl⟩ := hcs
    refine ⟨⟨hl, hm, by simp⟩, ?_⟩
    have hle : n ≤ m := by rw [hmm]; split <;> omega
    have key : ∀ i, i < n → ∃ v : Int × Int × Int × Option Addr × Nat × Nat × (Nat → Int) × (Nat → Int) × (Nat → Int), w.cell? ((ad.add (i * 4)).add 0) = some (.int .i64 v.1) ∧ w.cell? ((ad.add (i * 4)).add 1) = some (.int .u64 v.2.1) ∧ w.cell? ((ad.add (i * 4)).add 2) = some (.int .u64 v.2.2.1) ∧
        w.cell? ((ad.add (i * 4)).add 3) = some (.slice v.2.2.2.1 v.2.2.2.2.1 v.2.2.2.2.2.1) ∧ Head v.2.2.2.1 v.2.2.2.2.1 v.2.2.2.2.2.1 ∧ Row3 .i64 .u64 .u64 w v.2.2.2.1 v.2.2.2.2.1 v.2.2.2.2.2.2.1 v.2.2.2.2.2.2.2.1 v.2.2.2.2.2.2.2.2 := by
      intro i hi
      obtain ⟨cs', h1, h2⟩ := hx i (by omega)
      rw [Try.cells72] at h1
      obtain ⟨va, vb, vc, pa, pn, pc, rfl, hh, A, B, C, hr⟩ := open72 h2
      obtain ⟨_, _, h3⟩ := World.cells?_some h1
      exact ⟨(va, vb, vc, pa, pn, pc, A, B, C), h3 0 (by omega), h3 1 (by omega), h3 2 (by omega), h3 3 (by omega), hh, hr⟩
    obtain ⟨F, hF⟩ := choose_lt key
    refine ⟨fun i => (F i).1, fun i => (F i).2.1, fun i => (F i).2.2.1, fun i => (F i).2.2.2.1, fun i => (F i).2.2.2.2.1, fun i => (F i).2.2.2.2.2.1, fun i => (F i).2.2.2.2.2.2.1, fun i => (F i).2.2.2.2.2.2.2.1, fun i => (F i).2.2.2.2.2.2.2.2, ?_, fun i hi => (hF i hi).2.2.2.2.1, fun i hi => (hF i hi).2.2.2.2.2⟩
    by_cases hn : n = 0
    · exact .inl hn
    · obtain ⟨b, o, spot⟩ := ad
      have hs : spot = none := by
        have := World.cell?_spot (hF 0 (by omega)).1
        simpa [Addr.add] using this
      subst hs
      refine .inr ⟨b, o, rfl, fun i hi => ?_⟩
      have := hF i hi
      simp only [Addr.add_lit, Nat.add_zero] at this
      exact ⟨this.1, this.2.1, this.2.2.1, this.2.2.2.1⟩

theorem open46 {fuel : Nat} {cs : List Value} {x : DataW H × List MemPlace} (h : DataW.trod enc Try.prog w 0 spare held fuel 46 cs = some x) :
    ∃ m : Msg, cs = [.int .i64 m.frm, .int .i64 m.dst, .int .i64 m.rnd, .int .u64 m.num, .string m.val, .int .u64 m.stamp, .slice m.sa m.sn m.sc, .slice m.ha m.hn m.hc] ∧ Rows2 w m ∧ m.val.size ≤ maxLen ∧ Head m.sa m.sn m.sc ∧ Head m.ha m.hn m.hc ∧ ∀ i, i < m.hn → Head (m.pa i) (m.pn i) (m.pc i) := by
  obtain ⟨xs, n, _, _, hl, hxl, hf⟩ := DataW.trod_struct Try.underlying46 h
  rw [Try.cells46] at hl
  obtain ⟨c0, c1, c2, c3, c4, c5, c6, c7, rfl⟩ := len8 hl
  have h0 : DataW.trod enc Try.prog w 0 spare held n 3 (List.take (Try.prog.cellsOf 3) (List.drop 0 [c0, c1, c2, c3, c4, c5, c6, c7])) = xs[0]? := hf 0 _ rfl
  have h1 : DataW.trod enc Try.prog w 0 spare held n 3 (List.take (Try.prog.cellsOf 3) (List.drop 1 [c0, c1, c2, c3, c4, c5, c6, c7])) = xs[1]? := hf 1 _ rfl
  have h2 : DataW.trod enc Try.prog w 0 spare held n 3 (List.take (Try.prog.cellsOf 3) (List.drop 2 [c0, c1, c2, c3, c4, c5, c6, c7])) = xs[2]? := hf 2 _ rfl
  have h3 : DataW.trod enc Try.prog w 0 spare held n 27 (List.take (Try.prog.cellsOf 27) (List.drop 3 [c0, c1, c2, c3, c4, c5, c6, c7])) = xs[3]? := hf 3 _ rfl
  have h4 : DataW.trod enc Try.prog w 0 spare held n 9 (List.take (Try.prog.cellsOf 9) (List.drop 4 [c0, c1, c2, c3, c4, c5, c6, c7])) = xs[4]? := hf 4 _ rfl
  have h5 : DataW.trod enc Try.prog w 0 spare held n 27 (List.take (Try.prog.cellsOf 27) (List.drop 5 [c0, c1, c2, c3, c4, c5, c6, c7])) = xs[5]? := hf 5 _ rfl
  have h6 : DataW.trod enc Try.prog w 0 spare held n 43 (List.take (Try.prog.cellsOf 43) (List.drop 6 [c0, c1, c2, c3, c4, c5, c6, c7])) = xs[6]? := hf 6 _ rfl
  have h7 : DataW.trod enc Try.prog w 0 spare held n 44 (List.take (Try.prog.cellsOf 44) (List.drop 7 [c0, c1, c2, c3, c4, c5, c6, c7])) = xs[7]? := hf 7 _ rfl
  obtain ⟨x0, e0⟩ := get_some (i := 0) hxl (by decide)
  rw [e0] at h0
  obtain ⟨x1, e1⟩ := get_some (i := 1) hxl (by decide)
  rw [e1] at h1
  obtain ⟨x2, e2⟩ := get_some (i := 2) hxl (by decide)
  rw [e2] at h2
  obtain ⟨x3, e3⟩ := get_some (i := 3) hxl (by decide)
  rw [e3] at h3
  obtain ⟨x4, e4⟩ := get_some (i := 4) hxl (by decide)
  rw [e4] at h4
  obtain ⟨x5, e5⟩ := get_some (i := 5) hxl (by decide)
  rw [e5] at h5
  obtain ⟨x6, e6⟩ := get_some (i := 6) hxl (by decide)
  rw [e6] at h6
  obtain ⟨x7, e7⟩ := get_some (i := 7) hxl (by decide)
  rw [e7] at h7
  simp only [Try.cells3, Try.cells27, Try.cells9, Try.cells43, Try.cells44, List.drop, List.take] at h0 h1 h2 h3 h4 h5 h6 h7
  obtain ⟨v0, q0, _⟩ := DataW.trod_int Try.underlying3 h0
  obtain ⟨v1, q1, _⟩ := DataW.trod_int Try.underlying3 h1
  obtain ⟨v2, q2, _⟩ := DataW.trod_int Try.underlying3 h2
  obtain ⟨v3, q3, _⟩ := DataW.trod_int Try.underlying27 h3
  obtain ⟨v4, q4, _, hv⟩ := DataW.trod_string Try.underlying9 h4
  obtain ⟨v5, q5, _⟩ := DataW.trod_int Try.underlying27 h5
  obtain ⟨sa, sn, sc, q6⟩ := slice_shape Try.underlying43 h6
  obtain ⟨ha, hn, hc, q7⟩ := slice_shape Try.underlying44 h7
  simp at q0 q1 q2 q3 q4 q5 q6 q7
  subst q0 q1 q2 q3 q4 q5 q6 q7
  obtain ⟨sh, SA, SR, SP, srow⟩ := row3_of Try.underlying43 Try.cells74 (fun _ _ _ h => open74 h) h6
  obtain ⟨hh, HA, HN, HS, pa, pn, pc, PA, PN, PS, hrow, hph, hpr⟩ := row4_of h7
  exact ⟨⟨v0, v1, v2, v3, v4, v5, sa, sn, sc, SA, SR, SP, ha, hn, hc, HA, HN, HS, pa, pn, pc, PA, PN, PS⟩, rfl, ⟨srow, hrow, hpr⟩, hv, sh, hh, hph⟩

/-- A message behind a pointer. -/
theorem msg_of {fuel : Nat} {a : Addr} {cs : List Value} {x : DataW H × List MemPlace} (hc : w.cells? 0 a 8 = some cs) (h : DataW.trod enc Try.prog w 0 spare held fuel 46 cs = some x) : ∃ b o m, a = ⟨b, o, none⟩ ∧ IsMsg w b o m := by
  obtain ⟨m, rfl, r1, r2, r3, r4, r5⟩ := open46 h
  obtain ⟨_, _, h3⟩ := World.cells?_some hc
  obtain ⟨b, o, spot⟩ := a
  have hs : spot = none := by
    have := World.cell?_spot (h3 0 (by omega))
    simpa [Addr.add] using this
  subst hs
  refine ⟨b, o, m, rfl, ?_⟩
  have h0 := h3 0 (by omega)
  have h1 := h3 1 (by omega)
  have h2 := h3 2 (by omega)
  have h3' := h3 3 (by omega)
  have h4 := h3 4 (by omega)
  have h5 := h3 5 (by omega)
  have h6 := h3 6 (by omega)
  have h7 := h3 7 (by omega)
  simp only [Addr.add_lit, Nat.add_zero] at h0 h1 h2 h3' h4 h5 h6 h7
  exact ⟨h0, h1, h2, h3', h4, h5, h6, h7, r1, r2, r3, r4, r5⟩

def noMsg : Msg := ⟨0, 0, 0, 0, ByteArray.empty, 0, none, 0, 0, fun _ => 0, fun _ => 0, fun _ => 0, none, 0, 0, fun _ => 0, fun _ => 0, fun _ => 0, fun _ => none, fun _ => 0, fun _ => 0, fun _ _ => 0, fun _ _ => 0, fun _ _ => 0⟩

/-- A slice of pointers to messages. -/
theorem from_of {fuel : Nat} {a : Option Addr} {n c : Nat} {x : DataW H × List MemPlace} (h : DataW.trod enc Try.prog w 0 spare held fuel 22 [.slice a n c] = some x) : ∃ pt ms, IsFrom w a n pt ms := by
  rcases open_slice1 Try.underlying22 Try.cells26 h with ⟨hcs, _⟩ | ⟨ad, len, cap, m, fu, V, D, Pl, hcs, _, hl, hm, hmm, _, hx⟩
  · simp at hcs
    obtain ⟨rfl, rfl, rfl⟩ := hcs
    exact ⟨fun _ => none, fun _ => noMsg, .inl rfl⟩
  · simp at hcs
    obtain ⟨rfl, rfl, rfl⟩ := hcs
    have hle : n ≤ m := by rw [hmm]; split <;> omega
    have key : ∀ i, i < n → ∃ v : Option (Nat × Nat) × Msg, w.cell? (ad.add i) = some (ptrV v.1) ∧ ∀ y, v.1 = some y → IsMsg w y.1 y.2 v.2 := by
      intro i hi
      obtain ⟨h1, h2⟩ := hx i (by omega)
      rcases DataW.trod_pointer Try.underlying26 h2 with ⟨hv, _⟩ | ⟨pa, cs', y, fu', _, hv, _, hc, ht⟩
      · simp at hv
        rw [hv] at h1
        exact ⟨(none, noMsg), h1, by simp⟩
      · simp at hv
        rw [hv] at h1
        rw [Try.cells46] at hc
        obtain ⟨b, o, m', rfl, hm'⟩ := msg_of hc ht
        exact ⟨(some (b, o), m'), h1, fun y hy => by simp at hy; subst hy; exact hm'⟩
    haveI : Inhabited (Option (Nat × Nat) × Msg) := ⟨(none, noMsg)⟩
    obtain ⟨F, hF⟩ := choose_lt key
    refine ⟨fun i => (F i).1, fun i => (F i).2, ?_⟩
    by_cases hn : n = 0
    · exact .inl hn
    · obtain ⟨b, o, spot⟩ := ad
      have hs : spot = none := by
        have := World.cell?_spot (hF 0 (by omega)).1
        simpa [Addr.add] using this
      subst hs
      refine .inr ⟨b, o, rfl, fun i hi => ?_⟩
      have := hF i hi
      simp only [Addr.add_lit] at this
      exact this
end
end Go.Proofs.Qxb6605338a
