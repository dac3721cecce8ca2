/-
  Seat b6605338a. 'ZZNaiveDecide' (19).
-/
import Derived.Test.Qxb6605338aTuples
namespace Go.Proofs.Qxb6605338a
open Go.RowKit
set_option linter.unusedVariables false

theorem Try.info91 : (Try.prog.info? 91).map (fun i => (i.zero, i.size, i.bytes)) = some (some (.slice none 0 0), 1, 24) := by kernel_rfl
theorem make90 (n : Nat) (hn : n ≤ 1048576) (w : World) : (Instr.makeSlice 90 (.int .i64 n) (.int .i64 n)).run Try.prog w = .ok (.slice (some ⟨w.heap.size, 0, none⟩) n n) (w.alloc (.cells (madeCells #[.slice none 0 0] n) 91)) := by
  obtain ⟨i0, hi, hz0, hz1, hz2⟩ := info_parts Try.info91
  have h := run_make (P := Try.prog) w 90 91 i0 _ Try.underlying90 hi hz0 .i64 .i64 n n (by omega) (Int.le_refl _) (by rw [hz2]; omega) (by omega)
  simpa [hz1, Value.cells] using h
theorem Try.info93 : (Try.prog.info? 93).map (fun i => (i.zero, i.size, i.bytes)) = some (some (.agg #[.int .i64 0, .string ByteArray.empty, .slice none 0 0]), 3, 48) := by kernel_rfl
theorem make91 (n : Nat) (hn : n ≤ 1048576) (w : World) : (Instr.makeSlice 91 (.int .i64 n) (.int .i64 n)).run Try.prog w = .ok (.slice (some ⟨w.heap.size, 0, none⟩) n n) (w.alloc (.cells (madeCells #[.int .i64 0, .string ByteArray.empty, .slice none 0 0] (n * 3)) 93)) := by
  obtain ⟨i0, hi, hz0, hz1, hz2⟩ := info_parts Try.info93
  have h := run_make (P := Try.prog) w 91 93 i0 _ Try.underlying91 hi hz0 .i64 .i64 n n (by omega) (Int.le_refl _) (by rw [hz2]; omega) (by omega)
  simpa [hz1, Value.cells] using h
theorem eql69 (w : World) (a : Option Addr) (n c n' c' : Nat) : (binOp .eql 69 (.slice a n c) (.slice none n' c')).run Try.prog w = .ok (.bool a.isNone) w := Lib.run_eql_slice_nil w _ _ a n c n' c' Try.underlying69

/-- The loop over a row, j tuples done. -/
structure LoopR (w5 wr : World) (j n : Nat) (A : Nat → Int) (V : Nat → ByteArray) (xa : Nat → Option Addr) (xn xc : Nat → Nat) : Prop where
  own : ∃ f, Own wr w5.heap.size (n * 3) 93 f ∧ DoneT f j A V xa xn xc
  bel : Below w5.heap.size w5 wr
theorem LoopR.step {w5 wr : World} {j n : Nat} {A : Nat → Int} {V : Nat → ByteArray} {xa : Nat → Option Addr} {xn xc : Nat → Nat} (h : LoopR w5 wr j n A V xa xn xc) :
    LoopR w5 (((wr.setCell ⟨w5.heap.size, j * 3, none⟩ (.int .i64 (A j))).setCell ⟨w5.heap.size, j * 3 + 1, none⟩ (.string (V j))).setCell ⟨w5.heap.size, j * 3 + 2, none⟩ (.slice (xa j) (xn j) (xc j))).drew (j + 1) n A V xa xn xc := by
  obtain ⟨⟨f, h1, h2⟩, h3⟩ := h
  exact ⟨⟨_, (h1.set3 _ _ _ _).drew, h2.step (xa' := xa) (fun _ _ => rfl)⟩, (below3 h3 (Nat.le_refl _) _ _ _ _).drew⟩

/-- The loop over the rows, k of them done. -/
structure LoopH (w wr : World) (k n : Nat) (ra : Nat → Option Addr) (rn : Nat → Nat) (A : Nat → Nat → Int) (V : Nat → Nat → ByteArray) (xa : Nat → Nat → Option Addr) (xn xc : Nat → Nat → Nat) : Prop where
  own : ∃ f, Own wr (w.heap.size + 1) n 91 f ∧ (∀ i, i < k → f i = .slice (ra i) (rn i) (rn i)) ∧ ∀ i, k ≤ i → i < n → f i = .slice none 0 0
  tup : ∀ i, i < k → RowT wr (ra i) (rn i) (A i) (V i) (xa i) (xn i) (xc i) ∧ Within (w.heap.size + 2) wr.heap.size (ra i)
  res : ∃ f, Own wr w.heap.size 6 59 f
  bel : Below w.heap.size w wr
theorem LoopH.step_nil {w wr : World} {k n : Nat} {ra : Nat → Option Addr} {rn : Nat → Nat} {A : Nat → Nat → Int} {V : Nat → Nat → ByteArray} {xa : Nat → Nat → Option Addr} {xn xc : Nat → Nat → Nat}
    (h : LoopH w wr k n ra rn A V xa xn xc) (hk : k < n) (h0 : rn k = 0) : ∃ ra', LoopH w wr (k + 1) n ra' rn A V xa xn xc := by
  obtain ⟨⟨f, hown, hd, hz⟩, ht, hr, hb⟩ := h
  refine ⟨fun i => if i = k then none else ra i, ⟨f, hown, fun i hi => ?_, fun i hi hi' => hz i (by omega) hi'⟩, fun i hi => ?_, hr, hb⟩
  · by_cases e : i = k
    · subst e; simp only [if_true]; rw [h0]; exact hz i (Nat.le_refl _) hk
    · simp only [e, if_false]; exact hd i (by omega)
  · by_cases e : i = k
    · subst e; simp only [if_true]; exact ⟨.inl h0, by intro x hx; simp at hx⟩
    · simp only [e, if_false]; exact ht i (by omega)
theorem LoopH.step_row {w w5 wz : World} {k n : Nat} {ra : Nat → Option Addr} {rn : Nat → Nat} {A : Nat → Nat → Int} {V : Nat → Nat → ByteArray} {xa : Nat → Nat → Option Addr} {xn xc : Nat → Nat → Nat}
    (h : LoopH w w5 k n ra rn A V xa xn xc) (hk : k < n) (hT : LoopR w5 wz (rn k) (rn k) (A k) (V k) (xa k) (xn k) (xc k)) :
    ∃ ra', LoopH w (wz.setCell ⟨w.heap.size + 1, k, none⟩ (.slice (some ⟨w5.heap.size, 0, none⟩) (rn k) (rn k))) (k + 1) n ra' rn A V xa xn xc := by
  obtain ⟨⟨f, hown, hd, hz⟩, ht, ⟨fr, hr⟩, hb⟩ := h
  obtain ⟨⟨f2, ho2, hd2⟩, hbT⟩ := hT
  have hlt := hown.lt
  have hsz := hbT.size
  have hs : ∀ hi v, SameIn (w.heap.size + 2) hi wz (wz.setCell ⟨w.heap.size + 1, k, none⟩ v) := fun hi v => SameIn.of_but ((SameBut.refl _ _).set _ _) (.inl (Nat.lt_succ_self _))
  have hsize : ∀ v, (wz.setCell ⟨w.heap.size + 1, k, none⟩ v).heap.size = wz.heap.size := fun v => by simp [World.setCell]
  refine ⟨fun i => if i = k then some ⟨w5.heap.size, 0, none⟩ else ra i, ⟨_, (hown.keep hbT hlt).set k _, fun i hi => ?_, fun i hi hi' => ?_⟩, fun i hi => ?_, ⟨fr, (hr.keep hbT hr.lt).set_ne (by simp) _⟩, (hb.trans (hbT.mono hb.size)).setCell (by simp) _⟩
  · by_cases e : i = k
    · subst e; simp only [if_true, upd_same]
    · simp only [e, if_false]; rw [upd_ne _ _ e]; exact hd i (by omega)
  · rw [upd_ne _ _ (by omega)]; exact hz i (by omega) hi'
  · rw [hsize]
    by_cases e : i = k
    · subst e
      simp only [if_true]
      have hw : Within (w.heap.size + 2) wz.heap.size (some ⟨w5.heap.size, 0, none⟩) := by
        intro x hx
        simp at hx; subst hx
        exact ⟨hlt, ho2.lt⟩
      exact ⟨(hd2.row ho2).sameIn (hs _ _) hw, hw⟩
    · simp only [e, if_false]
      obtain ⟨h1, h2⟩ := ht i (by omega)
      have h3 := h1.sameIn ((SameIn.of_below hbT).mono (Nat.zero_le _) (Nat.le_refl _)) (h2.mono (Nat.zero_le _) (Nat.le_refl _))
      exact ⟨h3.sameIn (hs _ _) (h2.mono (Nat.le_refl _) hsz), h2.mono (Nat.le_refl _) hsz⟩
theorem LoopH.held {w wr : World} {n : Nat} {ra : Nat → Option Addr} {rn : Nat → Nat} {A : Nat → Nat → Int} {V : Nat → Nat → ByteArray} {xa : Nat → Nat → Option Addr} {xn xc : Nat → Nat → Nat} {X : Nat → Nat → Nat → Int}
    (h : LoopH w wr n n ra rn A V xa xn xc) (hn : ∀ i, i < n → ∀ j, j < rn i → RowI .u64 w (xa i j) (xn i j) (X i j)) : IsHeld wr ⟨some ⟨w.heap.size + 1, 0, none⟩, n, n, ra, rn, rn, A, V, xa, xn, xc, X⟩ := by
  obtain ⟨⟨f, hown, hd, hz⟩, ht, hr, hb⟩ := h
  refine ⟨.inr ⟨_, 0, rfl, fun i hi => ?_⟩, fun i hi => (ht i hi).1, fun i hi j hj => (hn i hi j hj).keep hb⟩
  show wr.cell? ⟨_, 0 + i, none⟩ = _
  rw [Nat.zero_add, ← hd i hi]
  exact hown.cell hi

/-- What is asked of a decision, by its cells. -/
abbrev DQ := Nat → World → Bool → Bool → Option Addr → Option Addr → Option Addr → Nat → Nat → Option Addr → Prop
def Dec (Q : DQ) (g : Nat) (w w' : World) : Prop :=
  (∃ F b0 b1 p2 p3 sa sn sc p5, Own w' g 12 96 F ∧ At6 F 6 (.bool b0) (.bool b1) (.pointer p2) (.pointer p3) (.slice sa sn sc) (.pointer p5) ∧ Q g w' b0 b1 p2 p3 sa sn sc p5) ∧ Below g w w'
def DecPost (Q : DQ) (w : World) (e : Ending) (w' : World) : Prop :=
  ∃ g b0 b1 p2 p3 sa sn sc p5, e = .returned (.agg #[.bool b0, .bool b1, .pointer p2, .pointer p3, .slice sa sn sc, .pointer p5]) ∧ Q g w' b0 b1 p2 p3 sa sn sc p5 ∧ w.heap.size ≤ g ∧ Below w.heap.size w w'

set_option maxRecDepth 100000 in
set_option maxHeartbeats 4000000 in
theorem zznd_with (Q : DQ) (hst : ∀ g g0 w2 w3 b0 b1 p2 p3 sa sn sc p5, g0 < g → SameBut g0 w2 w3 → Q g w2 b0 b1 p2 p3 sa sn sc p5 → Q g w3 b0 b1 p2 p3 sa sn sc p5)
    (H : Held) (f : Int) (w : World) (h : IsHeld w H) (hs : Small H) (hfit : ∀ i, i < H.n → H.ra i = none → H.rn i = 0)
    (hdec : ∀ g F w1 H1, Own w1 g 12 96 F → F 0 = .int .i64 H.n → F 1 = .int .i64 f → F 3 = .slice H1.a H1.n H1.c → IsHeld w1 H1 → H1.n = H.n → H1.rn = H.rn → H1.X = H.X → H1.V = H.V → H1.xn = H.xn →
      Calls Try.prog 26 #[.pointer (some ⟨g, 0, none⟩)] w1 fun e w' => e = .returned (.tuple #[]) ∧ Dec Q g w1 w') :
    Calls Try.prog 19 #[.int .i64 H.n, .int .i64 f, .slice H.a H.n H.c] w fun e w' => DecPost Q w e w' := by
  obtain ⟨rows, tups, nums⟩ := h
  obtain ⟨a, n, c, ra, rn, rc, A, V, xa, xn, xc, X⟩ := H
  obtain ⟨s1, s2, s3⟩ := hs
  dsimp only at *
  have HRO := veil rows
  have HTU := veil tups
  have HNU := veil nums
  have HS2 := veil s2
  have HRH := veil hfit
  have HDEC := veil hdec
  have HST := veil hst
  clear rows tups nums s2 s3 hfit hdec hst
  have hmk := make90 n s1
  go_enter Try.func19, Try.ntmps19
  go_wp2_with fail
  clear hmk
  go_loopw [8] (fun i wr => ∃ k : Nat, k ≤ n ∧ i = .int .i64 k ∧ ∃ ra', Hid (LoopH w wr k n ra' rn A V xa xn xc)) (fun i _ => n - (intOf i).toNat)
  case atStart =>
    obtain ⟨f, hf, hz⟩ := Own.zeros (w.alloc (.cells #[.bool false, .bool false, .pointer none, .pointer none, .slice none 0 0, .pointer none] 59)) (.slice none 0 0) n 91
    obtain ⟨fr, hr⟩ := Own.new' w #[.bool false, .bool false, .pointer none, .pointer none, .slice none 0 0, .pointer none] 59 (N := 6) rfl
    simp only [World.size_alloc] at hf
    exact ⟨0, Nat.zero_le _, rfl, fun _ => none, ⟨f, hf, fun i hi => by omega, fun i _ hi => hz i hi⟩, fun i hi => by omega, ⟨fr, hr.alloc _⟩, ((Below.refl _ _).alloc (Nat.le_refl _) _).alloc (by simp) _⟩
  case round =>
    obtain ⟨k, hk, rfl, ra', HO⟩ := hrel
    by_cases hlt : k < n
    · rcases HRO.out with h0 | ⟨b, o, rfl, hro⟩
      · omega
      have hli : (k : Int) < (n : Int) := by omega
      have g0 := hro k hlt
      have hrk := HS2.out k hlt
      have hhd := HRH.out k hlt
      have HTK := veil (HTU.out k hlt)
      clear hro
      have q1 := eql69
      obtain ⟨R0, hR0⟩ : ∃ R0, R0 = ra k := ⟨_, rfl⟩
      rw [← hR0] at g0 hhd HTK
      have G0 := veil g0
      have g1 := keep HO.out.bel g0
      clear hR0 g0
      match R0 with
      | none =>
        have hz := hhd rfl
        obtain ⟨ra2, HO2⟩ := HO.out.step_nil hlt hz
        have HO3 := veil HO2
        clear hz hhd HO2
        go_wp2
        go_roundw
        case rel => exact ⟨k + 1, by omega, by go_num, ra2, HO3⟩
        case measure => simp [intOf]; omega
      | some y =>
        have hmk := make91 (rn k) hrk
        obtain ⟨w5, h5⟩ : ∃ x, x = wr := ⟨_, rfl⟩
        subst h5
        clear hhd
        go_wp2
        clear hmk q1 g1
        go_loopw [10] (fun i wr => ∃ j : Nat, j ≤ rn k ∧ i = .int .i64 j ∧ Hid (LoopR w5 wr j (rn k) (A k) (V k) (xa k) (xn k) (xc k))) (fun i _ => rn k - (intOf i).toNat)
        case atStart =>
          obtain ⟨f, hf⟩ := Own.new' w5 (madeCells #[.int .i64 0, .string ByteArray.empty, .slice none 0 0] (rn k * 3)) 93 (N := rn k * 3) (size_madeCells _ _)
          exact ⟨0, Nat.zero_le _, rfl, ⟨f, hf, fun i hi => by omega⟩, (Below.refl _ _).alloc (Nat.le_refl _) _⟩
        case round =>
          obtain ⟨j, hj, rfl, HT⟩ := hrel
          obtain ⟨w6, h6⟩ : ∃ x, x = wr := ⟨_, rfl⟩
          subst h6
          have hbe : Below w.heap.size w w6 := HO.out.bel.trans (HT.out.bel.mono HO.out.bel.size)
          have g1 := keep hbe G0.out
          by_cases hjt : j < rn k
          · rcases HTK.out with h0 | ⟨tb, tz, hra, hrow⟩
            · omega
            simp only [Option.some.injEq] at hra
            subst hra
            obtain ⟨r0, r1, r2⟩ := hrow j hjt
            have hjl : (j : Int) < (rn k : Int) := by omega
            have e0 := keep hbe r0
            have e1 := keep hbe r1
            have e2 := keep hbe r2
            have HT3 := veil HT.out.step
            obtain ⟨⟨ff, hown, _⟩, _⟩ := HT.out
            have x0 := hown.cell (i := j * 3) (by omega)
            have x1 := hown.cell (i := j * 3 + 1) (by omega)
            have x2 := hown.cell (i := j * 3 + 2) (by omega)
            have f0 := hown.frozen (j * 3)
            have f1 := hown.frozen (j * 3 + 1)
            have f2 := hown.frozen (j * 3 + 2)
            clear hrow r0 r1 r2 hown hbe
            go_wp2
            go_region
            go_wp2
            go_roundw
            case rel => exact ⟨j + 1, by omega, by go_num, HT3⟩
            case measure => simp [intOf]; omega
          · have hje : j = rn k := by omega
            have hT := HT.out
            rw [hje] at hT
            obtain ⟨ra2, HO2⟩ := HO.out.step_row hlt hT
            have HO3 := veil HO2
            obtain ⟨⟨ff, hown, _⟩, _⟩ := HO.out
            have hown2 := hown.keep hT.bel hown.lt
            have x0 := hown2.cell (i := k) hlt
            have f0 := hown2.frozen k
            clear hown hown2 HO2 hT hbe
            go_wp2
            go_roundw
            case rel => exact ⟨k + 1, by omega, by go_num, ra2, HO3⟩
            case measure => simp [intOf]; omega
    · have hke : k = n := by omega
      rw [hke] at HO
      obtain ⟨w7, h7⟩ : ∃ x, x = wr := ⟨_, rfl⟩
      subst h7
      have HHE := veil (HO.out.held HNU.out)
      go_wp2_with fail
      have hagent := Own.new w7 #[.int .i64 n, .int .i64 f, .int .i64 0, .slice (some ⟨w.heap.size + 1, 0, none⟩) n n, .slice none 0 0, .int .i64 0, .bool false, .bool false, .pointer none, .pointer none, .slice none 0 0, .pointer none] 96
      refine (HDEC.out w7.heap.size _ _ _ hagent rfl rfl rfl (HHE.out.keep ((Below.refl _ _).alloc (Nat.le_refl _) _)) rfl rfl rfl rfl rfl).mono ?_
      clear hagent
      rintro e w8 ⟨rfl, ⟨F, b0, b1, p2, p3, sa, sn, sc, p5, hF, ⟨a0, a1, a2, a3, a4, a5⟩, hQ⟩, hb8⟩
      have HQ := veil hQ
      have c0 := hF.cell (i := 6) (by omega)
      have c1 := hF.cell (i := 7) (by omega)
      have c2 := hF.cell (i := 8) (by omega)
      have c3 := hF.cell (i := 9) (by omega)
      have c4 := hF.cell (i := 10) (by omega)
      have c5 := hF.cell (i := 11) (by omega)
      rw [a0] at c0
      rw [a1] at c1
      rw [a2] at c2
      rw [a3] at c3
      rw [a4] at c4
      rw [a5] at c5
      have hgl8 := hF.lt
      obtain ⟨fr, hr7⟩ := HO.out.res
      have hlt7 := hr7.lt
      have hr8 : Own w8 w.heap.size 6 59 fr := (hr7.alloc _).keep hb8 hlt7
      have x0 := hr8.cell (i := 0) (by omega)
      have x1 := hr8.cell (i := 1) (by omega)
      have x2 := hr8.cell (i := 2) (by omega)
      have x3 := hr8.cell (i := 3) (by omega)
      have x4 := hr8.cell (i := 4) (by omega)
      have x5 := hr8.cell (i := 5) (by omega)
      have f0 := hr8.frozen 0
      have f1 := hr8.frozen 1
      have f2 := hr8.frozen 2
      have f3 := hr8.frozen 3
      have f4 := hr8.frozen 4
      have f5 := hr8.frozen 5
      have HB8 : Hid (Below w.heap.size w w8) := HO.out.bel.trans (((Below.refl _ _).alloc (Nat.le_refl _) _).mono HO.out.bel.size |>.trans (hb8.mono (Nat.le_of_lt hlt7)))
      clear hF hr7 hr8 hb8 hQ a0 a1 a2 a3 a4 a5
      go_wp2
      refine bodyPost_ret (v := .agg #[.bool b0, .bool b1, .pointer p2, .pointer p3, .slice sa sn sc, .pointer p5]) ?_ rfl ?_
      · simp [results, Try.results19, go_sem, *]
      · exact ⟨w7.heap.size, b0, b1, p2, p3, sa, sn, sc, p5, rfl, HST.out _ _ _ _ _ _ _ _ _ _ _ _ hlt7 ((SameBut.refl w.heap.size w8).set6 0 _ _ _ _ _ _) HQ.out, HO.out.bel.size, below6 HB8.out (Nat.le_refl _) 0 _ _ _ _ _ _⟩

def QGone : DQ := fun g w b0 b1 p2 p3 sa sn sc p5 => b0 = true ∧ b1 = true ∧ p2 = none ∧ p3 = none ∧ sa = none ∧ sn = 0 ∧ sc = 0 ∧ p5 = none
def QMade (rn : Nat → Nat) (n ch : Nat) (val : ByteArray) : DQ := fun g w b0 b1 p2 p3 sa sn sc p5 =>
  b0 = true ∧ b1 = false ∧ p3 = none ∧ sn = (cl rn n).length ∧ RowI .i64 w sa (cl rn n).length (fun i => (cand rn n i : Int)) ∧ (∀ x, sa = some x → g < x.block) ∧
  (∃ vb, p2 = some ⟨vb, 0, none⟩ ∧ g < vb ∧ w.cell? ⟨vb, 0, none⟩ = some (.string val)) ∧ ∃ cb, p5 = some ⟨cb, 0, none⟩ ∧ g < cb ∧ w.cell? ⟨cb, 0, none⟩ = some (.int .i64 ch)

theorem zznd_gone (H : Held) (f : Int) (w : World) (h : IsHeld w H) (hs : Small H) (hfit : ∀ i, i < H.n → H.ra i = none → H.rn i = 0) (hf : 0 ≤ f) (hfn : f < H.n) (hab : (∃ j, j < H.n ∧ 1 < H.rn j) ∨ ((cl H.rn H.n).length : Int) < H.n - f) :
    Calls Try.prog 19 #[.int .i64 H.n, .int .i64 f, .slice H.a H.n H.c] w fun e w' => DecPost QGone w e w' := by
  refine zznd_with QGone (fun _ _ _ _ _ _ _ _ _ _ _ _ _ _ h => h) H f w h hs hfit ?_
  intro g F w1 H1 hg h0 h1 h3 hH e1 e2 e3 e4 e5
  rw [← e1] at h0
  refine (decide_gone g F H1 f w1 hg h0 h1 h3 hH ⟨by rw [e1]; exact hs.n, by rw [e1, e2]; exact hs.rn, by rw [e1, e2, e5]; exact hs.xn⟩ hf (by rw [e1]; exact hfn) (by rw [e1, e2]; exact hab)).mono ?_
  rintro e w' ⟨rfl, ⟨F', hF', hat⟩, hb⟩
  exact ⟨rfl, ⟨F', true, true, none, none, none, 0, 0, none, hF', hat, rfl, rfl, rfl, rfl, rfl, rfl, rfl, rfl⟩, hb⟩

theorem zznd_made (H : Held) (f : Int) (w : World) (h : IsHeld w H) (hs : Small H) (hfit : ∀ i, i < H.n → H.ra i = none → H.rn i = 0)
    (hrg : ∀ i, i < H.n → ∀ j, j < H.rn i → ∀ q, q < H.xn i j → 0 ≤ H.X i j q ∧ H.X i j q < 18446744073709551616)
    (hf : 0 ≤ f) (hfn : f < H.n) (hone : ∀ j, j < H.n → H.rn j ≤ 1) (hmany : (H.n : Int) - f ≤ (cl H.rn H.n).length) (hsh : ∀ j, j < H.n → H.rn j = 1 → f < H.xn j 0) :
    Calls Try.prog 19 #[.int .i64 H.n, .int .i64 f, .slice H.a H.n H.c] w fun e w' => DecPost (QMade H.rn H.n (chosen H.rn H.n H.X) (H.V (chosen H.rn H.n H.X) 0)) w e w' := by
  refine zznd_with _ ?_ H f w h hs hfit ?_
  · rintro g g0 w2 w3 b0 b1 p2 p3 sa sn sc p5 hlt hs2 ⟨e0, e1, e2, e3, hr, hrb, ⟨vb, e4, hv, hvc⟩, cb, e5, hc, hcc⟩
    refine ⟨e0, e1, e2, e3, hr.same hs2 (fun x hx => by have := hrb x hx; omega), hrb, ⟨vb, e4, hv, ?_⟩, cb, e5, hc, ?_⟩
    · exact (World.cell?_of_block (w := w2) (hs2 vb (by omega))).trans hvc
    · exact (World.cell?_of_block (w := w2) (hs2 cb (by omega))).trans hcc
  · intro g F w1 H1 hg h0 h1 h3 hH e1 e2 e3 e4 e5
    rw [← e1] at h0
    refine (decide_made g F H1 f w1 hg h0 h1 h3 hH ⟨by rw [e1]; exact hs.n, by rw [e1, e2]; exact hs.rn, by rw [e1, e2, e5]; exact hs.xn⟩ (by rw [e1, e2, e3, e5]; exact hrg) hf (by rw [e1]; exact hfn) (by rw [e1, e2]; exact hone) (by rw [e1, e2]; exact hmany) (by rw [e1, e2, e5]; exact hsh)).mono ?_
    rw [e1, e2, e3, e4]
    rintro e w' ⟨rfl, ⟨F', vb, cb, ca, cc, hF', hat, hv, hc, hr, v1, v2, v3⟩, hb⟩
    exact ⟨rfl, ⟨F', true, false, some ⟨vb, 0, none⟩, none, ca, _, cc, some ⟨cb, 0, none⟩, hF', hat, rfl, rfl, rfl, rfl, hr, v3, ⟨vb, rfl, v1, hv⟩, cb, rfl, v2, hc⟩, hb⟩
end Go.Proofs.Qxb6605338a
