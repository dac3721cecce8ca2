/-
  Seat b6605338a. 'toTuples' (20): what is held, copied deeply into new memory.
-/
import Derived.Test.Qxb6605338aMade
namespace Go.Proofs.Qxb6605338a
open Go.RowKit
set_option linter.unusedVariables false

theorem Try.info69 : (Try.prog.info? 69).map (fun i => (i.zero, i.size, i.bytes)) = some (some (.slice none 0 0), 1, 24) := by kernel_rfl
theorem make61 (n : Nat) (hn : n ≤ 1048576) (w : World) : (Instr.makeSlice 61 (.int .i64 n) (.int .i64 n)).run Try.prog w = .ok (.slice (some ⟨w.heap.size, 0, none⟩) n n) (w.alloc (.cells (madeCells #[.slice none 0 0] n) 69)) := by
  obtain ⟨i0, hi, hz0, hz1, hz2⟩ := info_parts Try.info69
  have h := run_make (P := Try.prog) w 61 69 i0 _ Try.underlying61 hi hz0 .i64 .i64 n n (by omega) (Int.le_refl _) (by rw [hz2]; omega) (by omega)
  simpa [hz1, Value.cells] using h
theorem Try.info68 : (Try.prog.info? 68).map (fun i => (i.zero, i.size, i.bytes)) = some (some (.agg #[.int .i64 0, .string ByteArray.empty, .slice none 0 0]), 3, 48) := by kernel_rfl
theorem make69 (n : Nat) (hn : n ≤ 1048576) (w : World) : (Instr.makeSlice 69 (.int .i64 n) (.int .i64 n)).run Try.prog w = .ok (.slice (some ⟨w.heap.size, 0, none⟩) n n) (w.alloc (.cells (madeCells #[.int .i64 0, .string ByteArray.empty, .slice none 0 0] (n * 3)) 68)) := by
  obtain ⟨i0, hi, hz0, hz1, hz2⟩ := info_parts Try.info68
  have h := run_make (P := Try.prog) w 69 68 i0 _ Try.underlying69 hi hz0 .i64 .i64 n n (by omega) (Int.le_refl _) (by rw [hz2]; omega) (by omega)
  simpa [hz1, Value.cells] using h
theorem neq65 (w : World) (a : Option Addr) (n c n' c' : Nat) : (binOp .neq 65 (.slice a n c) (.slice none n' c')).run Try.prog w = .ok (.bool (!a.isNone)) w := run_neq_slice_nil_any w _ _ a n c n' c' Try.underlying65
theorem eql64 (w : World) (a : Option Addr) (n c n' c' : Nat) : (binOp .eql 64 (.slice a n c) (.slice none n' c')).run Try.prog w = .ok (.bool a.isNone) w := Lib.run_eql_slice_nil w _ _ a n c n' c' Try.underlying64

/-- A row that make has laid: all cells are the zero. -/
theorem Own.zeros (w : World) (z : Value) (n : Nat) (T : TypeId) : ∃ f, Own (w.alloc (.cells (madeCells #[z] n) T)) w.heap.size n T f ∧ ∀ i, i < n → f i = z := by
  obtain ⟨f, hf⟩ := Own.new' w (madeCells #[z] n) T (N := n) (size_madeCells _ _)
  refine ⟨f, hf, fun i hi => ?_⟩
  have h1 := hf.cell hi
  have h2 : (w.alloc (.cells (madeCells #[z] n) T)).cell? ⟨w.heap.size, i, none⟩ = some z := by
    have h3 : (w.alloc (.cells (madeCells #[z] n) T)).heap[w.heap.size]? = some (.cells (madeCells #[z] n) T) := heap_alloc_new w _
    simp only [World.cell?, h3]
    simp [madeCells, hi, Nat.mod_one]
  rw [h1] at h2
  exact Option.some.inj h2

/-- The first k tuples of a row are written. -/
def DoneT (f : Nat → Value) (k : Nat) (A : Nat → Int) (V : Nat → ByteArray) (xa : Nat → Option Addr) (xn xc : Nat → Nat) : Prop := ∀ i, i < k → At3 f (i * 3) (.int .i64 (A i)) (.string (V i)) (.slice (xa i) (xn i) (xc i))
theorem DoneT.step {f : Nat → Value} {k : Nat} {A : Nat → Int} {V : Nat → ByteArray} {xa xa' : Nat → Option Addr} {xn xc : Nat → Nat} (h : DoneT f k A V xa xn xc) (he : ∀ i, i < k → xa' i = xa i) :
    DoneT (upd3 f (k * 3) (.int .i64 (A k)) (.string (V k)) (.slice (xa' k) (xn k) (xc k))) (k + 1) A V xa' xn xc := by
  intro i hi
  by_cases e : i = k
  · subst e; exact upd3_at _ _ _ _ _
  · obtain ⟨h0, h1, h2⟩ := h i (by omega)
    refine ⟨?_, ?_, ?_⟩
    · rw [upd3_ne _ _ _ _ _ _ (by omega)]; exact h0
    · rw [upd3_ne _ _ _ _ _ _ (by omega)]; exact h1
    · rw [upd3_ne _ _ _ _ _ _ (by omega), he i (by omega)]; exact h2
theorem DoneT.row {w : World} {g n : Nat} {T : TypeId} {f : Nat → Value} {A : Nat → Int} {V : Nat → ByteArray} {xa : Nat → Option Addr} {xn xc : Nat → Nat} (h : DoneT f n A V xa xn xc) (ho : Own w g (n * 3) T f) : RowT w (some ⟨g, 0, none⟩) n A V xa xn xc := by
  refine .inr ⟨g, 0, rfl, fun i hi => ?_⟩
  obtain ⟨h0, h1, h2⟩ := h i hi
  refine ⟨?_, ?_, ?_⟩
  · rw [← h0, Nat.zero_add]; exact ho.cell (by omega)
  · rw [← h1, Nat.zero_add]; exact ho.cell (by omega)
  · rw [← h2, Nat.zero_add]; exact ho.cell (by omega)

/-- Where the ways through 'if row[i].X != nil' meet. -/
structure CutX (w1 wz : World) (p' : Option Addr) (n : Nat) (X : Nat → Int) : Prop where
  nil : p' = none → n = 0
  row : RowI .u64 wz p' n X
  blk : Within w1.heap.size wz.heap.size p'
  bel : Below w1.heap.size w1 wz

/-- The loop over a row, k tuples done. -/
structure LoopT (w5 wr : World) (k n : Nat) (A : Nat → Int) (V : Nat → ByteArray) (xa : Nat → Option Addr) (xn : Nat → Nat) (X : Nat → Nat → Int) : Prop where
  own : ∃ f, Own wr w5.heap.size (n * 3) 68 f ∧ DoneT f k A V xa xn xn
  nums : ∀ j, j < k → RowI .u64 wr (xa j) (xn j) (X j)
  xb : ∀ j, j < k → Within (w5.heap.size + 1) wr.heap.size (xa j)
  xh : ∀ j, j < k → xa j = none → xn j = 0
  bel : Below w5.heap.size w5 wr

theorem sameIn_set3 (w : World) (g o : Nat) (v0 v1 v2 : Value) {lo hi : Nat} (h : g < lo ∨ hi ≤ g) : SameIn lo hi w (((w.setCell ⟨g, o, none⟩ v0).setCell ⟨g, o + 1, none⟩ v1).setCell ⟨g, o + 2, none⟩ v2) :=
  SameIn.of_but ((((SameBut.refl g w).set _ _).set _ _).set _ _) h
theorem size_set3 (w : World) (g o : Nat) (v0 v1 v2 : Value) : (((w.setCell ⟨g, o, none⟩ v0).setCell ⟨g, o + 1, none⟩ v1).setCell ⟨g, o + 2, none⟩ v2).heap.size = w.heap.size := by simp [World.setCell]

theorem LoopT.step {w5 wr wz : World} {k n : Nat} {A : Nat → Int} {V : Nat → ByteArray} {xa : Nat → Option Addr} {xn : Nat → Nat} {X : Nat → Nat → Int} {p' : Option Addr} (h : LoopT w5 wr k n A V xa xn X) (hC : CutX wr wz p' (xn k) (X k)) :
    ∃ xa', LoopT w5 (((wz.setCell ⟨w5.heap.size, k * 3, none⟩ (.int .i64 (A k))).setCell ⟨w5.heap.size, k * 3 + 1, none⟩ (.string (V k))).setCell ⟨w5.heap.size, k * 3 + 2, none⟩ (.slice p' (xn k) (xn k))).drew (k + 1) n A V xa' xn X := by
  obtain ⟨⟨f, hown, hdone⟩, hnum, hxb, hxh, hbel⟩ := h
  obtain ⟨cnil, crow, cblk, cbel⟩ := hC
  have hlt := hown.lt
  have hsz := cbel.size
  have hs : SameIn (w5.heap.size + 1) wz.heap.size wz _ := sameIn_set3 wz w5.heap.size (k * 3) (.int .i64 (A k)) (.string (V k)) (.slice p' (xn k) (xn k)) (.inl (Nat.lt_succ_self _))
  have hz := size_set3 wz w5.heap.size (k * 3) (.int .i64 (A k)) (.string (V k)) (.slice p' (xn k) (xn k))
  refine ⟨fun i => if i = k then p' else xa i, ⟨_, ?_, hdone.step (xa' := fun i => if i = k then p' else xa i) (fun i hi => if_neg (by omega))⟩, ?_, ?_, ?_, ?_⟩
  · have := (hown.keep cbel hlt).set3 (k * 3) (.int .i64 (A k)) (.string (V k)) (.slice p' (xn k) (xn k))
    simpa using this.drew
  · intro j hj
    by_cases e : j = k
    · subst e
      simp only [if_true]
      exact crow.sameIn hs (cblk.mono (by omega) (Nat.le_refl _))
    · simp only [e, if_false]
      have hj' : j < k := by omega
      exact ((hnum j hj').sameIn ((SameIn.of_below cbel).mono (Nat.zero_le _) (Nat.le_refl _)) ((hxb j hj').mono (Nat.zero_le _) (Nat.le_refl _))).sameIn hs ((hxb j hj').mono (Nat.le_refl _) hsz)
  · intro j hj
    refine Within.mono (hi := wz.heap.size) (lo := w5.heap.size + 1) ?_ (Nat.le_refl _) (Nat.le_of_eq hz.symm)
    by_cases e : j = k
    · subst e
      simp only [if_true]
      exact cblk.mono (by omega) (Nat.le_refl _)
    · simp only [e, if_false]
      exact (hxb j (by omega)).mono (Nat.le_refl _) hsz
  · intro j hj
    by_cases e : j = k
    · subst e
      simp only [if_true]
      exact cnil
    · simp only [e, if_false]
      exact hxh j (by omega)
  · exact (below3 (hbel.trans (cbel.mono hbel.size)) (Nat.le_refl _) _ _ _ _).drew

/-- One row copied, in blocks from lo to hi. -/
structure Tup (lo hi : Nat) (w : World) (ra : Option Addr) (n : Nat) (A : Nat → Int) (V : Nat → ByteArray) (xa : Nat → Option Addr) (xn : Nat → Nat) (X : Nat → Nat → Int) : Prop where
  row : RowT w ra n A V xa xn xn
  num : ∀ j, j < n → RowI .u64 w (xa j) (xn j) (X j)
  rb : Within lo hi ra
  xb : ∀ j, j < n → Within lo hi (xa j)
  own : ∀ x, ra = some x → x = ⟨x.block, 0, none⟩ ∧ ∃ f, Own w x.block (n * 3) 68 f
  rh : ra = none → n = 0
  xh : ∀ j, j < n → xa j = none → xn j = 0
theorem Tup.sameIn {lo hi hi' : Nat} {w w' : World} {ra : Option Addr} {n : Nat} {A : Nat → Int} {V : Nat → ByteArray} {xa : Nat → Option Addr} {xn : Nat → Nat} {X : Nat → Nat → Int} (h : Tup lo hi w ra n A V xa xn X) (hs : SameIn lo hi w w') (hh : hi ≤ hi') : Tup lo hi' w' ra n A V xa xn X :=
  ⟨h.row.sameIn hs h.rb, fun j hj => (h.num j hj).sameIn hs (h.xb j hj), h.rb.mono (Nat.le_refl _) hh, fun j hj => (h.xb j hj).mono (Nat.le_refl _) hh,
    fun x hx => ⟨(h.own x hx).1, by obtain ⟨f, hf⟩ := (h.own x hx).2; exact ⟨f, hf.of_block (hs _ (h.rb x hx).1 (h.rb x hx).2)⟩⟩, h.rh, h.xh⟩
theorem Tup.of_loop {w5 wr : World} {n : Nat} {A : Nat → Int} {V : Nat → ByteArray} {xa : Nat → Option Addr} {xn : Nat → Nat} {X : Nat → Nat → Int} (h : LoopT w5 wr n n A V xa xn X) : Tup w5.heap.size wr.heap.size wr (some ⟨w5.heap.size, 0, none⟩) n A V xa xn X := by
  obtain ⟨⟨f, hown, hdone⟩, hnum, hxb, hxh, hbel⟩ := h
  refine ⟨hdone.row hown, hnum, fun x hx => ?_, fun j hj => (hxb j hj).mono (by omega) (Nat.le_refl _), fun x hx => ?_, by simp, hxh⟩
  · simp at hx; subst hx; exact ⟨Nat.le_refl _, hown.lt⟩
  · simp at hx; subst hx; exact ⟨rfl, f, hown⟩

/-- The loop over the rows, k of them done. -/
structure LoopO (w wr : World) (k n : Nat) (ra : Nat → Option Addr) (rn : Nat → Nat) (A : Nat → Nat → Int) (V : Nat → Nat → ByteArray) (xa : Nat → Nat → Option Addr) (xn : Nat → Nat → Nat) (X : Nat → Nat → Nat → Int) : Prop where
  own : ∃ f, Own wr w.heap.size n 69 f ∧ (∀ i, i < k → f i = .slice (ra i) (rn i) (rn i)) ∧ ∀ i, k ≤ i → i < n → f i = .slice none 0 0
  tup : ∀ i, i < k → Tup (w.heap.size + 1) wr.heap.size wr (ra i) (rn i) (A i) (V i) (xa i) (xn i) (X i)
  dist : ∀ i, i < k → ∀ i', i' < i → ∀ x y, ra i = some x → ra i' = some y → y.block < x.block
  bel : Below w.heap.size w wr

theorem LoopO.step_nil {w wr : World} {k n : Nat} {ra : Nat → Option Addr} {rn : Nat → Nat} {A : Nat → Nat → Int} {V : Nat → Nat → ByteArray} {xa : Nat → Nat → Option Addr} {xn : Nat → Nat → Nat} {X : Nat → Nat → Nat → Int}
    (h : LoopO w wr k n ra rn A V xa xn X) (hk : k < n) (h0 : rn k = 0) : ∃ ra', LoopO w wr (k + 1) n ra' rn A V xa xn X := by
  obtain ⟨⟨f, hown, hd, hz⟩, ht, hdi, hb⟩ := h
  refine ⟨fun i => if i = k then none else ra i, ⟨f, hown, fun i hi => ?_, fun i hi hi' => hz i (by omega) hi'⟩, fun i hi => ?_, fun i hi i' hi' x y hx hy => ?_, hb⟩
  · by_cases e : i = k
    · subst e; simp only [if_true]; rw [h0]; exact hz i (Nat.le_refl _) hk
    · simp only [e, if_false]; exact hd i (by omega)
  · by_cases e : i = k
    · subst e; simp only [if_true]; rw [h0]
      exact ⟨.inl rfl, fun j hj => by omega, by intro x hx; simp at hx, fun j hj => by omega, by intro x hx; simp at hx, fun _ => rfl, fun j hj => by omega⟩
    · simp only [e, if_false]; exact ht i (by omega)
  · by_cases e : i = k
    · subst e; simp at hx
    · simp only [e, if_false] at hx
      have e' : i' ≠ k := by omega
      simp only [e', if_false] at hy
      exact hdi i (by omega) i' hi' x y hx hy

theorem LoopO.step_row {w w5 wz : World} {k n : Nat} {ra : Nat → Option Addr} {rn : Nat → Nat} {A : Nat → Nat → Int} {V : Nat → Nat → ByteArray} {xa : Nat → Nat → Option Addr} {xn : Nat → Nat → Nat} {X : Nat → Nat → Nat → Int} {xk : Nat → Option Addr}
    (h : LoopO w w5 k n ra rn A V xa xn X) (hk : k < n) (hT : LoopT w5 wz (rn k) (rn k) (A k) (V k) xk (xn k) (X k)) :
    ∃ ra' xa', LoopO w (wz.setCell ⟨w.heap.size, k, none⟩ (.slice (some ⟨w5.heap.size, 0, none⟩) (rn k) (rn k))) (k + 1) n ra' rn A V xa' xn X := by
  obtain ⟨⟨f, hown, hd, hz⟩, ht, hdi, hb⟩ := h
  have hlt := hown.lt
  have hbT := hT.bel
  have hsz := hbT.size
  have hT' := Tup.of_loop hT
  have hs : ∀ hi v, SameIn (w.heap.size + 1) hi wz (wz.setCell ⟨w.heap.size, k, none⟩ v) := fun hi v => SameIn.of_but ((SameBut.refl _ _).set _ _) (.inl (Nat.lt_succ_self _))
  have hsize : ∀ v, (wz.setCell ⟨w.heap.size, k, none⟩ v).heap.size = wz.heap.size := fun v => by simp [World.setCell]
  refine ⟨fun i => if i = k then some ⟨w5.heap.size, 0, none⟩ else ra i, fun i => if i = k then xk else xa i, ⟨_, (hown.keep hbT hlt).set k _, fun i hi => ?_, fun i hi hi' => ?_⟩, fun i hi => ?_, fun i hi i' hi' x y hx hy => ?_, (hb.trans (hbT.mono hb.size)).setCell (Nat.le_refl _) _⟩
  · by_cases e : i = k
    · subst e; simp only [if_true, upd_same]
    · simp only [e, if_false]; rw [upd_ne _ _ e]; exact hd i (by omega)
  · rw [upd_ne _ _ (by omega)]; exact hz i (by omega) hi'
  · rw [hsize]
    by_cases e : i = k
    · subst e
      simp only [if_true]
      exact (Tup.sameIn ⟨hT'.row, hT'.num, hT'.rb.mono (by omega) (Nat.le_refl _), fun j hj => (hT'.xb j hj).mono (by omega) (Nat.le_refl _), hT'.own, hT'.rh, hT'.xh⟩ (hs _ _) (Nat.le_refl _))
    · simp only [e, if_false]
      have h1 := (ht i (by omega)).sameIn ((SameIn.of_below hbT).mono (Nat.zero_le _) (Nat.le_refl _)) hsz
      exact h1.sameIn (hs _ _) (Nat.le_refl _)
  · have e' : i' ≠ k := by omega
    simp only [e', if_false] at hy
    by_cases e : i = k
    · subst e
      simp only [if_true, Option.some.injEq] at hx
      subst hx
      exact ((ht i' hi').rb y hy).2
    · simp only [e, if_false] at hx
      exact hdi i (by omega) i' hi' x y hx hy

/-- What toTuples leaves. -/
structure TupOut (w w' : World) (H : Held) (ra : Nat → Option Addr) (xa : Nat → Nat → Option Addr) : Prop where
  own : ∃ f, Own w' w.heap.size H.n 69 f ∧ ∀ i, i < H.n → f i = .slice (ra i) (H.rn i) (H.rn i)
  tup : ∀ i, i < H.n → Tup (w.heap.size + 1) w'.heap.size w' (ra i) (H.rn i) (H.A i) (H.V i) (xa i) (H.xn i) (H.X i)
  dist : ∀ i, i < H.n → ∀ i', i' < i → ∀ x y, ra i = some x → ra i' = some y → y.block < x.block
  bel : Below w.heap.size w w'
def TupPost (w : World) (H : Held) (e : Ending) (w' : World) : Prop := ∃ ra xa, e = .returned (.slice (some ⟨w.heap.size, 0, none⟩) H.n H.n) ∧ TupOut w w' H ra xa

set_option maxRecDepth 100000 in
set_option maxHeartbeats 4000000 in
theorem toTuples_any (H : Held) (w : World) (h : IsHeld w H) (hs : Small H) (hfit : Fit H) :
    Calls Try.prog 20 #[.slice H.a H.n H.c] w fun e w' => TupPost w H e w' := by
  obtain ⟨rows, tups, nums⟩ := h
  obtain ⟨a, n, c, ra, rn, rc, A, V, xa, xn, xc, X⟩ := H
  obtain ⟨s1, s2, s3⟩ := hs
  obtain ⟨_, frh, fxh, _, _⟩ := hfit
  dsimp only at *
  have HRO := veil rows
  have HTU := veil tups
  have HNU := veil nums
  have HS2 := veil s2
  have HS3 := veil s3
  have HRH := veil frh
  have HXH := veil fxh
  clear rows tups nums s2 s3 frh fxh
  have hmk := make61 n s1
  go_enter Try.func20, Try.ntmps20
  go_wp2
  clear hmk
  go_loopw [4] (fun i wr => ∃ k : Nat, k ≤ n ∧ i = .int .i64 k ∧ ∃ ra' xa', Hid (LoopO w wr k n ra' rn A V xa' xn X)) (fun i _ => n - (intOf i).toNat)
  case atStart =>
    obtain ⟨f, hf, hz⟩ := Own.zeros w (.slice none 0 0) n 69
    exact ⟨0, Nat.zero_le _, rfl, fun _ => none, fun _ _ => none, ⟨f, hf, fun i hi => by omega, fun i _ hi => hz i hi⟩, fun i hi => by omega, fun i hi => by omega, (Below.refl _ _).alloc (Nat.le_refl _) _⟩
  case round =>
    obtain ⟨k, hk, rfl, ra', xa', HO⟩ := hrel
    by_cases hlt : k < n
    · rcases HRO.out with h0 | ⟨b, o, rfl, hro⟩
      · omega
      have hli : (k : Int) < (n : Int) := by omega
      have g1 := keep HO.out.bel (hro k hlt)
      have hrk := HS2.out k hlt
      have hhd := HRH.out k hlt
      have HTK := veil (HTU.out k hlt)
      have HNK := veil (HNU.out k hlt)
      have HSK := veil (HS3.out k hlt)
      have HXK := veil (HXH.out k hlt)
      clear hro
      have q1 := eql64
      obtain ⟨R0, hR0⟩ : ∃ R0, R0 = ra k := ⟨_, rfl⟩
      rw [← hR0] at g1 hhd HTK
      clear hR0
      match R0 with
      | none =>
        obtain ⟨_, _, hh3⟩ := hhd
        obtain ⟨hz, _⟩ := hh3 rfl
        obtain ⟨ra2, HO2⟩ := HO.out.step_nil hlt hz
        have HO3 := veil HO2
        clear hh3 hz HO2
        go_wp2
        go_roundw
        case rel => exact ⟨k + 1, by omega, by go_num, ra2, xa', HO3⟩
        case measure => simp [intOf]; omega
      | some y =>
        have hmk := make69 (rn k) hrk
        obtain ⟨w5, h5⟩ : ∃ x, x = wr := ⟨_, rfl⟩
        subst h5
        go_wp2
        clear hmk q1
        go_loopw [7] (fun i wr => ∃ j : Nat, j ≤ rn k ∧ i = .int .i64 j ∧ ∃ xk, Hid (LoopT w5 wr j (rn k) (A k) (V k) xk (xn k) (X k))) (fun i _ => rn k - (intOf i).toNat)
        case atStart =>
          obtain ⟨f, hf⟩ := Own.new' w5 (madeCells #[.int .i64 0, .string ByteArray.empty, .slice none 0 0] (rn k * 3)) 68 (N := rn k * 3) (size_madeCells _ _)
          exact ⟨0, Nat.zero_le _, rfl, fun _ => none, ⟨f, hf, fun i hi => by omega⟩, fun i hi => by omega, fun i hi => by omega, fun i hi => by omega, (Below.refl _ _).alloc (Nat.le_refl _) _⟩
        case round =>
          obtain ⟨j, hj, rfl, xk, HT⟩ := hrel
          obtain ⟨w6, h6⟩ : ∃ x, x = wr := ⟨_, rfl⟩
          subst h6
          have hbe : Below w.heap.size w w6 := HO.out.bel.trans (HT.out.bel.mono HO.out.bel.size)
          by_cases hjt : j < rn k
          · rcases HTK.out with h0 | ⟨tb, tz, hra, hrow⟩
            · omega
            simp only [Option.some.injEq] at hra
            subst hra
            obtain ⟨r0, r1, r2⟩ := hrow j hjt
            have hjl : (j : Int) < (rn k : Int) := by omega
            have e0 := keep hbe r0
            have e1 := keep hbe r1
            have e2 := keep hbe r2
            have hxl := HSK.out j hjt
            have hxh := HXK.out j hjt
            have HXJ := veil (HNK.out j hjt)
            clear hrow r0 r1 r2 g1
            have HBE := veil hbe
            clear hbe
            obtain ⟨P0, hP0⟩ : ∃ P0, P0 = xa k j := ⟨_, rfl⟩
            rw [← hP0] at e2 hxh HXJ
            clear hP0
            have q3 := neq65
            go_upto_if 39 with (fail)
            go_cut [8] (fun s8 wz => ∃ p', s8 = .slice p' (xn k j) (xn k j) ∧ CutX w6 wz p' (xn k j) (X k j))
            case first =>
              match P0 with
              | none =>
                obtain ⟨_, _, hz3⟩ := hxh
                obtain ⟨hz, _⟩ := hz3 rfl
                have HZ := veil hz
                clear hz hz3
                go_wp2
                go_meet
                case rel => exact ⟨none, by rw [HZ.out], fun _ => HZ.out, .inl HZ.out, by intro x hx; simp at hx, Below.refl _ _⟩
              | some z =>
                have hmk := make65 (xn k j) hxl
                go_wp2
                clear hmk q3
                go_loopw [9] (fun i wz => ∃ q : Nat, q ≤ xn k j ∧ i = .int .i64 q ∧ Hid (LoopN w6 wz (xn k j) q (X k j))) (fun i _ => xn k j - (intOf i).toNat)
                case atStart =>
                  refine ⟨0, Nat.zero_le _, rfl, ?_⟩
                  obtain ⟨f, hf⟩ := Own.new' w6 (madeCells #[.int .u64 0] (xn k j)) 27 (N := xn k j) (size_madeCells _ _)
                  exact ⟨⟨f, hf, fun i hi => by omega⟩, (Below.refl _ _).alloc (Nat.le_refl _) _⟩
                case round =>
                  obtain ⟨q, hq, rfl, HN⟩ := hrel
                  have z2 := keep HN.out.bel e2
                  by_cases hqt : q < xn k j
                  · rcases HXJ.out with h0 | ⟨xb, xo, hxa, hrow⟩
                    · omega
                    simp only [Option.some.injEq] at hxa
                    subst hxa
                    have y0 := keep HN.out.bel (keep HBE.out (hrow q hqt))
                    have hli2 : (q : Int) < (xn k j : Int) := by omega
                    obtain ⟨⟨ff, hown, _⟩, _⟩ := HN.out
                    have x0 := hown.cell (i := q) hqt
                    have f0 := hown.frozen q
                    have HN2 := veil (HN.out.step _ rfl)
                    clear hrow hown e0 e1 e2
                    go_wp2
                    go_roundw
                    case rel => exact ⟨q + 1, by omega, by go_num, HN2⟩
                    case measure => simp [intOf]; omega
                  · go_wp2
                    go_meet
                    case rel =>
                      have e : q = xn k j := by omega
                      have hN := HN.out
                      rw [e] at hN
                      refine ⟨_, rfl, by simp, hN.row, ?_, hN.bel⟩
                      intro x hx
                      simp at hx
                      subst hx
                      obtain ⟨⟨ff, hown, _⟩, _⟩ := hN
                      exact ⟨Nat.le_refl _, hown.lt⟩
            case rest =>
              obtain ⟨p', rfl, hC⟩ := hcut
              obtain ⟨xk2, HT2⟩ := LoopT.step HT.out hC
              have HT3 := veil HT2
              have y0 := keep hC.bel e0
              have y1 := keep hC.bel e1
              obtain ⟨⟨ff, hown, _⟩, _⟩ := HT.out
              have hown2 := hown.keep hC.bel hown.lt
              have x0 := hown2.cell (i := j * 3) (by omega)
              have x1 := hown2.cell (i := j * 3 + 1) (by omega)
              have x2 := hown2.cell (i := j * 3 + 2) (by omega)
              have f0 := hown2.frozen (j * 3)
              have f1 := hown2.frozen (j * 3 + 1)
              have f2 := hown2.frozen (j * 3 + 2)
              clear hown hown2 HT2 hC e0 e1 e2 q3
              go_wp2
              go_region
              go_wp2
              go_roundw
              case rel => exact ⟨j + 1, by omega, by go_num, xk2, HT3⟩
              case measure => simp [intOf]; omega
          · have hje : j = rn k := by omega
            have hT := HT.out
            rw [hje] at hT
            obtain ⟨ra2, xa2, HO2⟩ := HO.out.step_row hlt hT
            have HO3 := veil HO2
            obtain ⟨⟨ff, hown, _⟩, _⟩ := HO.out
            have hown2 := hown.keep hT.bel hown.lt
            have x0 := hown2.cell (i := k) hlt
            have f0 := hown2.frozen k
            clear hown hown2 HO2 hT hbe g1
            go_wp2
            go_roundw
            case rel => exact ⟨k + 1, by omega, by go_num, ra2, xa2, HO3⟩
            case measure => simp [intOf]; omega
    · have hke : k = n := by omega
      rw [hke] at HO
      have HP : Hid (TupOut w wr ⟨a, n, c, ra, rn, rc, A, V, xa, xn, xc, X⟩ ra' xa') := by
        obtain ⟨⟨f, h1, h2, h3⟩, h4, h5, h6⟩ := HO.out
        exact ⟨⟨f, h1, h2⟩, h4, h5, h6⟩
      go_wp2
      go_ret
      exact ⟨ra', xa', rfl, HP.out⟩
end Go.Proofs.Qxb6605338a
