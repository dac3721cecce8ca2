/-
  Seat b6605338a. 'decide' (26) where it decides.
-/
import Derived.Test.Qxb6605338aGone
namespace Go.Proofs.Qxb6605338a
open Go.RowKit
set_option linter.unusedVariables false

theorem Try.info27 : (Try.prog.info? 27).map (fun i => (i.zero, i.size, i.bytes)) = some (some (.int .u64 0), 1, 8) := by kernel_rfl
theorem make65 (n : Nat) (hn : n ≤ 1048576) (w : World) : (Instr.makeSlice 65 (.int .i64 n) (.int .i64 n)).run Try.prog w = .ok (.slice (some ⟨w.heap.size, 0, none⟩) n n) (w.alloc (.cells (madeCells #[.int .u64 0] n) 27)) := by
  obtain ⟨i0, hi, hz0, hz1, hz2⟩ := info_parts Try.info27
  have h := run_make (P := Try.prog) w 65 27 i0 _ Try.underlying65 hi hz0 .i64 .i64 n n (by omega) (Int.le_refl _) (by rw [hz2]; omega) (by omega)
  simpa [hz1, Value.cells] using h

/-- The number that candidate i brings. -/
def xAt (rn : Nat → Nat) (n : Nat) (X : Nat → Nat → Nat → Int) (i : Nat) : Int := X (cand rn n i) 0 (n - (cl rn n).length)
/-- The place, from the top. -/
def place (rn : Nat → Nat) (n : Nat) (X : Nat → Nat → Nat → Int) : Nat := (rsum (xAt rn n X) (cl rn n).length (cl rn n).length % (cl rn n).length).toNat
/-- The one chosen. -/
def chosen (rn : Nat → Nat) (n : Nat) (X : Nat → Nat → Nat → Int) : Nat := cand rn n ((cl rn n).length - 1 - place rn n X)

/-- The agent has decided. -/
def Made (g : Nat) (w w' : World) (rn : Nat → Nat) (n ch : Nat) (val : ByteArray) : Prop :=
  (∃ F vb cb ca cc, Own w' g 12 96 F ∧ At6 F 6 (.bool true) (.bool false) (.pointer (some ⟨vb, 0, none⟩)) (.pointer none) (.slice ca (cl rn n).length cc) (.pointer (some ⟨cb, 0, none⟩)) ∧
    w'.cell? ⟨vb, 0, none⟩ = some (.string val) ∧ w'.cell? ⟨cb, 0, none⟩ = some (.int .i64 ch) ∧ RowI .i64 w' ca (cl rn n).length (fun i => (cand rn n i : Int)) ∧ g < vb ∧ g < cb ∧ ∀ x, ca = some x → g < x.block) ∧ Below g w w'

/-- The first j numbers are laid. -/
structure LoopN (w5 wr : World) (K j : Nat) (x : Nat → Int) : Prop where
  own : ∃ f, Own wr w5.heap.size K 27 f ∧ ∀ i, i < j → f i = .int .u64 (x i)
  bel : Below w5.heap.size w5 wr
theorem LoopN.step {w5 wr : World} {K j : Nat} {x : Nat → Int} (h : LoopN w5 wr K j x) (v : Int) (hv : v = x j) : LoopN w5 (wr.setCell ⟨w5.heap.size, j, none⟩ (.int .u64 v)) K (j + 1) x := by
  obtain ⟨⟨f, h1, h2⟩, h3⟩ := h
  refine ⟨⟨_, h1.set j _, fun i hi => ?_⟩, h3.setCell (Nat.le_refl _) _⟩
  by_cases e : i = j
  · subst e; rw [upd_same, hv]
  · rw [upd_ne _ _ e]; exact h2 i (by omega)
theorem LoopN.row {w5 wr : World} {K : Nat} {x : Nat → Int} (h : LoopN w5 wr K K x) : RowI .u64 wr (some ⟨w5.heap.size, 0, none⟩) K x := by
  obtain ⟨⟨f, h1, h2⟩, h3⟩ := h
  refine .inr ⟨_, 0, rfl, fun i hi => ?_⟩
  rw [Nat.zero_add, ← h2 i hi]
  exact h1.cell hi

theorem RowI.same {k : IntKind} {g : Nat} {W w' : World} (hs : SameBut g W w') {a : Option Addr} {n : Nat} {X : Nat → Int} (hne : ∀ x, a = some x → x.block ≠ g) (h : RowI k W a n X) : RowI k w' a n X := by
  rcases h with h | ⟨b, o, rfl, h⟩
  · exact .inl h
  · have e : ∀ o', w'.cell? ⟨b, o', none⟩ = W.cell? ⟨b, o', none⟩ := fun o' => World.cell?_of_block (w := W) (hs b (hne _ rfl))
    exact .inr ⟨b, o, rfl, fun i hi => by rw [e]; exact h i hi⟩
theorem SameBut.set6 {g : Nat} {w w' : World} (h : SameBut g w w') (o : Nat) (v0 v1 v2 v3 v4 v5 : Value) : SameBut g w ((((((w'.setCell ⟨g, o, none⟩ v0).setCell ⟨g, o + 1, none⟩ v1).setCell ⟨g, o + 2, none⟩ v2).setCell ⟨g, o + 3, none⟩ v3).setCell ⟨g, o + 4, none⟩ v4).setCell ⟨g, o + 5, none⟩ v5) :=
  (((((h.set _ _).set _ _).set _ _).set _ _).set _ _).set _ _
theorem size_set6 (w : World) (g o : Nat) (v0 v1 v2 v3 v4 v5 : Value) : ((((((w.setCell ⟨g, o, none⟩ v0).setCell ⟨g, o + 1, none⟩ v1).setCell ⟨g, o + 2, none⟩ v2).setCell ⟨g, o + 3, none⟩ v3).setCell ⟨g, o + 4, none⟩ v4).setCell ⟨g, o + 5, none⟩ v5).heap.size = w.heap.size := by simp [World.setCell]

theorem made_at {g : Nat} {w W : World} {F' : Nat → Value} {rn : Nat → Nat} {n ch s : Nat} {val : ByteArray} {ca : Option Addr} {cc : Nat} (hF : Own W g 12 96 F') (hs : W.heap.size = s)
    (hat : At6 F' 6 (.bool true) (.bool false) (.pointer (some ⟨s + 1, 0, none⟩)) (.pointer none) (.slice ca (cl rn n).length cc) (.pointer (some ⟨s, 0, none⟩))) (hb : Below g w W)
    (hr : RowI .i64 W ca (cl rn n).length (fun i => (cand rn n i : Int))) (hc : ∀ x, ca = some x → g < x.block) :
    Made g w ((W.alloc (.cells #[.int .i64 (ch : Int)] 3)).alloc (.cells #[.string val] 9)).drew rn n ch val := by
  subst hs
  have hgW := hF.lt
  refine ⟨⟨F', W.heap.size + 1, W.heap.size, ca, cc, ((hF.alloc _).alloc _).drew, hat, by simp, by simp, ?_, by omega, hgW, hc⟩, ?_⟩
  · exact hr.keep ((((Below.refl _ _).alloc (Nat.le_refl _) _).alloc (by simp) _).drew)
  · exact ((hb.alloc (by omega) _).alloc (by simp; omega) _).drew
theorem made_of {g : Nat} {w w7 : World} {F : Nat → Value} {rn : Nat → Nat} {n ch : Nat} {val : ByteArray} {ca : Option Addr} {cc : Nat} (hown : Own w7 g 12 96 F) (hbr : Below w.heap.size w w7) (hgl : g < w.heap.size)
    (hr : RowI .i64 w7 ca (cl rn n).length (fun i => (cand rn n i : Int))) (hcb : ∀ x, ca = some x → w.heap.size ≤ x.block) :
    Made g w ((((((((w7.setCell ⟨g, 6, none⟩ (.bool true)).setCell ⟨g, 6 + 1, none⟩ (.bool false)).setCell ⟨g, 6 + 2, none⟩ (.pointer (some ⟨w7.heap.size + 1, 0, none⟩))).setCell ⟨g, 6 + 3, none⟩ (.pointer none)).setCell ⟨g, 6 + 4, none⟩ (.slice ca (cl rn n).length cc)).setCell ⟨g, 6 + 5, none⟩ (.pointer (some ⟨w7.heap.size, 0, none⟩))).alloc (.cells #[.int .i64 (ch : Int)] 3)).alloc (.cells #[.string val] 9)).drew rn n ch val := by
  obtain ⟨F', hF, hat⟩ := hown.set6 6 (.bool true) (.bool false) (.pointer (some ⟨w7.heap.size + 1, 0, none⟩)) (.pointer none) (.slice ca (cl rn n).length cc) (.pointer (some ⟨w7.heap.size, 0, none⟩))
  have hb := below6 (hbr.mono (Nat.le_of_lt hgl)) (Nat.le_refl g) 6 (.bool true) (.bool false) (.pointer (some ⟨w7.heap.size + 1, 0, none⟩)) (.pointer none) (.slice ca (cl rn n).length cc) (.pointer (some ⟨w7.heap.size, 0, none⟩))
  have hsame := (SameBut.refl g w7).set6 6 (.bool true) (.bool false) (.pointer (some ⟨w7.heap.size + 1, 0, none⟩)) (.pointer none) (.slice ca (cl rn n).length cc) (.pointer (some ⟨w7.heap.size, 0, none⟩))
  have hsz := size_set6 w7 g 6 (.bool true) (.bool false) (.pointer (some ⟨w7.heap.size + 1, 0, none⟩)) (.pointer none) (.slice ca (cl rn n).length cc) (.pointer (some ⟨w7.heap.size, 0, none⟩))
  exact made_at hF hsz hat hb (hr.same hsame (fun x hx => by have := hcb x hx; omega)) (fun x hx => by have := hcb x hx; omega)

set_option maxRecDepth 100000 in
set_option maxHeartbeats 4000000 in
theorem decide_made (g : Nat) (F : Nat → Value) (H : Held) (f : Int) (w : World) (hg : Own w g 12 96 F) (h0 : F 0 = .int .i64 H.n) (h1 : F 1 = .int .i64 f) (h3 : F 3 = .slice H.a H.n H.c)
    (h : IsHeld w H) (hs : Small H) (hrg : ∀ i, i < H.n → ∀ j, j < H.rn i → ∀ q, q < H.xn i j → 0 ≤ H.X i j q ∧ H.X i j q < 18446744073709551616)
    (hf : 0 ≤ f) (hfn : f < H.n) (hone : ∀ j, j < H.n → H.rn j ≤ 1) (hmany : (H.n : Int) - f ≤ (cl H.rn H.n).length) (hsh : ∀ j, j < H.n → H.rn j = 1 → f < H.xn j 0) :
    Calls Try.prog 26 #[.pointer (some ⟨g, 0, none⟩)] w fun e w' => e = .returned (.tuple #[]) ∧ Made g w w' H.rn H.n (chosen H.rn H.n H.X) (H.V (chosen H.rn H.n H.X) 0) := by
  have HH := veil h
  obtain ⟨rows, tups, nums⟩ := h
  obtain ⟨a, n, c, ra, rn, rc, A, V, xa, xn, xc, X⟩ := H
  obtain ⟨s1, s2, s3⟩ := hs
  obtain ⟨i0, hi, hz0, hz1, hz2⟩ := info_parts Try.info3
  dsimp only at *
  have HRO := veil rows
  have HTU := veil tups
  have HNU := veil nums
  have HS2 := veil s2
  have HI := veil hi
  have HZ0 := veil hz0
  have HZ1 := veil hz1
  have HZ2 := veil hz2
  have HOW := veil hg
  have HONE := veil hone
  have HMANY := veil hmany
  have HSH := veil hsh
  have HRG := veil hrg
  have x0 := hg.cell (i := 0) (by omega)
  have x1 := hg.cell (i := 1) (by omega)
  have x3 := hg.cell (i := 3) (by omega)
  have hgl := hg.lt
  rw [h0] at x0
  rw [h1] at x1
  rw [h3] at x3
  have X0 := veil x0
  have X1 := veil x1
  have X3 := veil x3
  clear rows tups nums s2 s3 hi hz0 hz1 hz2 hg hone hmany hsh hrg h0 h1 h3 x0 x1
  go_enter Try.func26, Try.ntmps26
  go_wp2
  go_loopw [2, 16] (fun v i wr => ∃ k : Nat, k ≤ n ∧ i = .int .i64 k ∧ Hid (Cands w wr w.heap.size rn k v)) (fun _ i _ => n - (intOf i).toNat)
  case atStart => exact ⟨0, Nat.zero_le _, rfl, Cands.start w w rn _ (Below.refl _ _)⟩
  case round =>
    obtain ⟨k, hk, rfl, HC⟩ := hrel
    clear x3
    by_cases hlt : k < n
    · rcases HRO.out with h0 | ⟨b, o, rfl, hc⟩
      · omega
      have hli : (k : Int) < (n : Int) := by omega
      have g1 := keep HC.out.bel (hc k hlt)
      have g3 := HONE.out k hlt
      obtain ⟨R, hR⟩ : ∃ R, R = rn k := ⟨_, rfl⟩
      have HR := veil hR
      rw [← hR] at g1 g3
      clear hc hR
      have t0' : decide ((1 : Int) < (R : Int)) = false := by simp; omega
      by_cases t1 : R = 1
      · subst t1
        go_wp2_with (at_builtin; refine wpList_append_own _ rfl _ _ 57 rfl w.heap.size 3 i0 (.int .i64 0) 1 8 Try.underlying57 HI.out HZ0.out HZ1.out HZ2.out rfl (by decide) _ _ _ rfl (HC.out.own.alloc _) ⟨wr.heap.size, 0, none⟩ 1 1 [.int .i64 k] rfl rfl ?c1 ?c2 ?c3 ?c4 ?c5 ?_)
        case c1 =>
          intro j u hj
          match j, hj with
          | 0, hj => simp at hj; subst hj; simp [Addr.add]
        case c2 => intro u hu; simp at hu; subst hu; rfl
        case c3 => have := cl_len rn k; unfold maxLen; omega
        case c4 => have := cl_len rn k; omega
        case c5 => have := HC.out.bel.size; simp; omega
        · intro v' w1 hown' hgrow _
          have HB : Below w.heap.size w w1 := (HC.out.bel.alloc HC.out.bel.size _).grown hgrow (by have := HC.out.bel.size; simp; omega) HC.out.own_ge
          have HC2 := veil (HC.out.step HR.out.symm hown' HB)
          clear hown' hgrow HB
          go_wp2
          go_roundw
          case rel => exact ⟨k + 1, by omega, by go_num, HC2⟩
          case measure => simp [intOf]; omega
      · have t1' : decide ((R : Int) = 1) = false := by simp; omega
        have t1'' : ((R : Int) == 1) = false := by simp; omega
        go_wp2
        go_roundw
        case rel => exact ⟨k + 1, by omega, by go_num, HC.out.skip (by rw [← HR.out]; exact t1)⟩
        case measure => simp [intOf]; omega
    · have hke : k = n := by omega
      rw [hke] at HC
      have hkn := HMANY.out
      obtain ⟨ca, cc, rfl, hch, hcr, hcb⟩ := HC.out.row
      have x0 := keep HC.out.bel X0.out
      have x1 := keep HC.out.bel X1.out
      have hln := cl_len rn n
      obtain ⟨K, hK⟩ : ∃ K, K = (cl rn n).length := ⟨_, rfl⟩
      have HKK := veil hK
      rw [← hK] at hkn hln hcr
      have HCR := veil hcr
      have HBE := veil HC.out.bel
      have HCB := veil hcb
      obtain ⟨w5, h5⟩ : ∃ x, x = wr := ⟨_, rfl⟩
      subst h5
      have ht : decide ((K : Int) < (n : Int) - f) = false := by simp; omega
      rw [← hK]
      clear hK hch hcr hcb HC
      have hmk := make65 K (by omega)
      have hK0 : 0 < K := by omega
      go_wp2
      go_quiet (fail)
      generalize h6 : w5.drewN nq = w6
      have hb6 : Below w.heap.size w w6 := by rw [← h6]; exact below_drewN HBE.out _
      have hr6 : RowI .i64 w6 ca K (fun i => (cand rn n i : Int)) := by rw [← h6]; exact HCR.out.keep (below_drewN' w5 _)
      have HB6 := veil hb6
      have HR6 := veil hr6
      have y0 := keep hb6 X0.out
      clear x0 x1 h6 hb6 hr6 HCR HBE
      go_wp2
      obtain ⟨T, hT⟩ : ∃ T : Nat, n = K + T := ⟨n - K, by omega⟩
      have hT2 : ((n : Int) - K).toNat = T := by omega
      have hT0 : 0 ≤ (n : Int) - K := by omega
      have HT := veil hT
      clear y0 hmk hT
      have HTT : Hid (n - (cl rn n).length = T) := by show _ = _; rw [← HKK.out]; have := HT.out; omega
      have hgl6 : g < w6.heap.size := by have := HB6.out.size; omega
      go_loopw [63] (fun i wr => ∃ j : Nat, j ≤ K ∧ i = .int .i64 j ∧ Hid (LoopN w6 wr K j (xAt rn n X))) (fun i _ => K - (intOf i).toNat)
      case atStart =>
        refine ⟨0, Nat.zero_le _, rfl, ?_⟩
        obtain ⟨f, hf⟩ := Own.new' w6 (madeCells #[.int .u64 0] K) 27 (N := K) (size_madeCells _ _)
        exact ⟨⟨f, hf, fun i hi => by omega⟩, (Below.refl _ _).alloc (Nat.le_refl _) _⟩
      case round =>
        obtain ⟨j, hj, rfl, HN⟩ := hrel
        have hbr : Below w.heap.size w wr := HB6.out.trans (HN.out.bel.mono HB6.out.size)
        have y3 := keep hbr X3.out
        rcases HR6.out with h0 | ⟨cb, co, rfl, hcr⟩
        · omega
        rcases HRO.out with h0 | ⟨b, o, rfl, hro⟩
        · omega
        by_cases hjt : j < K
        · have hjl : (j : Int) < (K : Int) := by omega
          have g1 : wr.cell? ⟨cb, co + j, none⟩ = some (.int .i64 (cand rn n j)) := keep HN.out.bel (hcr j hjt)
          obtain ⟨hc1, hc2⟩ := cand_mem (rn := rn) (n := n) (i := j) (by rw [← HKK.out]; exact hjt)
          have g2 := keep hbr (hro _ hc1)
          have g3 := HTU.out _ hc1
          have g4 := HNU.out _ hc1 0 (by omega)
          have g5 := HSH.out _ hc1 hc2
          have HV : Hid (X (cand rn n j) 0 T = xAt rn n X j) := by show _ = _; unfold xAt; rw [HTT.out]
          generalize cand rn n j = cj at *
          rw [hc2] at g2 g3
          rcases g3 with h0 | ⟨tb, tz, hra, g3⟩
          · omega
          rw [hra] at g2
          have g6 := keep hbr (g3 0 (by omega)).2.2
          simp only [Nat.zero_mul, Nat.add_zero] at g6
          rcases g4 with h0 | ⟨xb, xo, hxa, g4⟩
          · omega
          rw [hxa] at g6
          have hnT := HT.out
          have g7 := keep hbr (g4 T (by omega))
          have hcl : (cj : Int) < (n : Int) := by omega
          have htx : (n : Int) - K < xn cj 0 := by omega
          obtain ⟨⟨ff, hown, _⟩, _⟩ := HN.out
          have z0 := hown.cell (i := j) hjt
          have z1 := hown.frozen j
          have HN2 := veil (HN.out.step _ HV.out)
          clear g3 g4 hcr hro hown hbr hra hxa g5 hnT
          go_wp2
          go_roundw
          case rel => exact ⟨j + 1, by omega, by go_num, HN2⟩
          case measure => simp [intOf]; omega
        · have hje : j = K := by omega
          rw [hje] at HN
          clear hcr hro hbr
          obtain ⟨w7, h7⟩ : ∃ x, x = wr := ⟨_, rfl⟩
          subst h7
          go_wp2_with fail
          refine (draw_any _ K cc (fun i => (cand rn n i : Int)) _ K (xAt rn n X) w7 hK0 (by omega) (HR6.out.keep HN.out.bel) HN.out.row ?hrng).mono ?_
          case hrng =>
            intro i hi
            obtain ⟨hc1, hc2⟩ := cand_mem (rn := rn) (n := n) (i := i) (by rw [← HKK.out]; exact hi)
            unfold xAt
            rw [HTT.out]
            have := HSH.out _ hc1 hc2
            have := HT.out
            exact HRG.out _ hc1 0 (by omega) T (by omega)
          rintro e w8 ⟨rfl, rfl⟩
          have hSlt : (rsum (xAt rn n X) (K : Int) K % (K : Int)).toNat < K := by
            have := Int.emod_lt_of_pos (rsum (xAt rn n X) (K : Int) K) (show (0 : Int) < (K : Int) by omega)
            omega
          have HCH : Hid (cand rn n (K - 1 - (rsum (xAt rn n X) (K : Int) K % (K : Int)).toNat) = chosen rn n X) := by
            show _ = _
            unfold chosen place
            rw [← HKK.out]
          obtain ⟨hc1, hc2⟩ := cand_mem (rn := rn) (n := n) (i := K - 1 - (rsum (xAt rn n X) (K : Int) K % (K : Int)).toNat) (by rw [← HKK.out]; omega)
          generalize cand rn n (K - 1 - (rsum (xAt rn n X) (K : Int) K % (K : Int)).toNat) = ch at *
          clear hSlt
          have hbr : Below w.heap.size w w7 := HB6.out.trans (HN.out.bel.mono HB6.out.size)
          rcases HRO.out with h0 | ⟨b', o', hbo, hro⟩
          · omega
          simp only [Option.some.injEq, Addr.mk.injEq, and_true] at hbo
          obtain ⟨rfl, rfl⟩ := hbo
          have g2 := keep hbr (hro _ hc1)
          have g3 := HTU.out _ hc1
          rw [hc2] at g2 g3
          rcases g3 with h0 | ⟨tb, tz, hra, g3⟩
          · omega
          rw [hra] at g2
          have g6 := keep hbr (g3 0 (by omega)).2.1
          simp only [Nat.zero_mul, Nat.add_zero] at g6
          have hcl : (ch : Int) < (n : Int) := by omega
          have hown := HOW.out.keep hbr hgl
          have b1 := World.block_lt_of_cell? w7 _ g2
          have b2 := World.block_lt_of_cell? w7 _ g6
          have b3 : g < w7.heap.size := hown.lt
          have x6 := hown.cell (i := 6) (by omega)
          have x7 := hown.cell (i := 7) (by omega)
          have x8 := hown.cell (i := 8) (by omega)
          have x9 := hown.cell (i := 9) (by omega)
          have x10 := hown.cell (i := 10) (by omega)
          have x11 := hown.cell (i := 11) (by omega)
          have f6 := hown.frozen 6
          have f7 := hown.frozen 7
          have f8 := hown.frozen 8
          have f9 := hown.frozen 9
          have f10 := hown.frozen 10
          have f11 := hown.frozen 11
          clear hro g3 hra hown hbr
          go_wp2
          go_region
          go_wp2
          refine bodyPost_end (results_none Try.results26 _ _ _) rfl ⟨rfl, ?_⟩
          rw [← HCH.out]
          have hM := made_of (ch := ch) (val := V ch 0) (cc := cc) (HOW.out.keep (HB6.out.trans (HN.out.bel.mono HB6.out.size)) hgl) (HB6.out.trans (HN.out.bel.mono HB6.out.size)) hgl (by rw [← HKK.out]; exact HR6.out.keep HN.out.bel) HCB.out
          rw [← HKK.out] at hM
          exact hM
end Go.Proofs.Qxb6605338a
