/-
  Seat b6605338a. The walk of FnNaiveDecideExact (5).
-/
import Derived.Test.Qxb6605338aZznd
import Derived.Test.Qxb6605338aHeldBytes
namespace Go.Proofs.Qxb6605338a
open Go.RowKit
set_option linter.unusedVariables false

theorem eql57 (w : World) (a : Option Addr) (n c n' c' : Nat) : (binOp .eql 57 (.slice a n c) (.slice none n' c')).run Try.prog w = .ok (.bool a.isNone) w := Lib.run_eql_slice_nil w _ _ a n c n' c' Try.underlying57

theorem TupOut.held {w w' : World} {H : Held} {ra : Nat → Option Addr} {xa : Nat → Nat → Option Addr} (h : TupOut w w' H ra xa) : IsHeld w' ⟨some ⟨w.heap.size, 0, none⟩, H.n, H.n, ra, H.rn, H.rn, H.A, H.V, xa, H.xn, H.xn, H.X⟩ := by
  obtain ⟨⟨f, hown, hd⟩, ht, hdi, hb⟩ := h
  refine ⟨.inr ⟨_, 0, rfl, fun i hi => ?_⟩, fun i hi => (ht i hi).row, fun i hi j hj => (ht i hi).num j hj⟩
  show w'.cell? ⟨_, 0 + i, none⟩ = _
  rw [Nat.zero_add, ← hd i hi]
  exact hown.cell hi

set_option maxRecDepth 100000 in
set_option maxHeartbeats 4000000 in
theorem walk5 (x f : Int) (H : Held) (w : World) (h : IsHeld w H) (hfit : Fit H) :
    Calls Try.prog 5 #[.int .i64 x, .int .i64 f, .slice H.a H.n H.c] w fun e w' => e = .returned (.bool true) ∧ Below w.heap.size w w' := by
  have HH := veil h
  have HF := veil hfit
  have HRO := veil h.rows
  have HTU := veil h.tups
  have HNU := veil h.nums
  clear h hfit
  go_enter Try.func5, Try.ntmps5
  go_wp2_with fail
  refine (zz16_any x f H w HH.out).mono ?_
  rintro e w0 ⟨⟨r, rfl⟩, rfl⟩
  cases r with
  | false =>
    go_wp2
    go_ret
    exact ⟨rfl, Below.refl _ _⟩
  | true =>
    go_wp2_with fail
    refine (heldBytes_any H w HH.out).mono ?_
    rintro e w2 ⟨B, rfl, hB, q, rfl⟩
    by_cases hBL : 1048576 < B
    · go_wp2
      go_ret
      exact ⟨rfl, below_drewN' w q⟩
    have HS := veil (hB (by omega))
    have hBL' : decide ((1048576 : Int) < B) = false := by simp; omega
    clear hB hBL
    by_cases t1 : f < 0
    · have t1' : decide (f < 0) = true := by simp; omega
      go_wp2
      go_ret
      exact ⟨rfl, below_drewN' w q⟩
    have t1' : decide (f < 0) = false := by simp; omega
    by_cases t2 : x ≤ f
    · have t2' : decide (x ≤ f) = true := by simp; omega
      go_wp2
      go_ret
      exact ⟨rfl, below_drewN' w q⟩
    have t2' : decide (x ≤ f) = false := by simp; omega
    by_cases t3 : (H.n : Int) = x
    · subst t3
      go_wp2_with fail
      refine (heldShaped_any f H (w.drewN q) (HH.out.keep (below_drewN' w q)) HS.out).mono ?_
      rintro e w3 ⟨⟨r, rfl, hr⟩, rfl⟩
      cases r with
      | false =>
        go_wp2
        go_ret
        exact ⟨rfl, below_drewN' w q⟩
      | true =>
        have HSH := veil (hr rfl)
        clear hr
        have hW1 := below_drewN' w q
        generalize w.drewN q = w1 at *
        have HW1 := veil hW1
        clear hW1
        go_wp2_with fail
        refine (toTuples_any H w1 (HH.out.keep HW1.out) HS.out HF.out).mono ?_
        rintro e w2 ⟨ra', xa', rfl, hT⟩
        have HW2 := veil (HW1.out.trans (hT.bel.mono HW1.out.size))
        have HHT := veil hT.held
        have HRH : Hid (∀ i, i < H.n → ra' i = none → H.rn i = 0) := fun i hi => (hT.tup i hi).rh
        clear hT
        by_cases hab : (∃ j, j < H.n ∧ 1 < H.rn j) ∨ ((cl H.rn H.n).length : Int) < H.n - f
        · have HAB := veil hab
          clear hab
          go_wp2_with fail
          refine (zznd_gone _ f w2 HHT.out ⟨HS.out.n, HS.out.rn, HS.out.xn⟩ HRH.out (by omega) (by show f < (H.n : Int); omega) HAB.out).mono ?_
          rintro e w3 ⟨g, b0, b1, p2, p3, sa, sn, sc, p5, rfl, ⟨rfl, rfl, rfl, rfl, rfl, rfl, rfl, rfl⟩, hg, hb3⟩
          have HW3 := veil (HW2.out.trans (hb3.mono HW2.out.size))
          clear hb3 hg
          go_wp2_with fail
          have HBG := veil ((Below.refl w3.heap.size w3).alloc (Nat.le_refl _) (.cells #[.bool true, .bool true, .pointer none, .pointer none, .slice none 0 0, .pointer none] 59))
          have HW4 := veil (HW3.out.trans (HBG.out.mono HW3.out.size))
          refine (singles_any H _ (HH.out.keep HW4.out) HS.out).mono ?_
          rintro e w5 ⟨v, rfl, hC⟩
          obtain ⟨ca, cc, rfl, hhead, hcr, hcb⟩ := hC.row
          have hb5 := hC.bel
          have hlen := cl_len H.rn H.n
          have c0 : w5.cell? ⟨w3.heap.size, 0, none⟩ = some (.bool true) := by rw [hb5.cell (p := ⟨w3.heap.size, 0, none⟩) (by simp)]; simp
          have c1 : w5.cell? ⟨w3.heap.size, 1, none⟩ = some (.bool true) := by rw [hb5.cell (p := ⟨w3.heap.size, 1, none⟩) (by simp)]; simp
          have c2 : w5.cell? ⟨w3.heap.size, 2, none⟩ = some (.pointer none) := by rw [hb5.cell (p := ⟨w3.heap.size, 2, none⟩) (by simp)]; simp
          have c3 : w5.cell? ⟨w3.heap.size, 3, none⟩ = some (.pointer none) := by rw [hb5.cell (p := ⟨w3.heap.size, 3, none⟩) (by simp)]; simp
          have c4 : w5.cell? ⟨w3.heap.size, 4, none⟩ = some (.slice none 0 0) := by rw [hb5.cell (p := ⟨w3.heap.size, 4, none⟩) (by simp)]; simp
          have c5 : w5.cell? ⟨w3.heap.size, 5, none⟩ = some (.pointer none) := by rw [hb5.cell (p := ⟨w3.heap.size, 5, none⟩) (by simp)]; simp
          have HW5 := veil (HW4.out.trans (hb5.mono HW4.out.size))
          clear hC hcr hcb hhead hb5
          rcases HRO.out with h0 | ⟨b, o, hba, hro⟩
          · omega
          have hn20 : H.n ≤ 1048576 := HS.out.n
          have HRO2 := veil hro
          clear hro
          obtain ⟨K, hK⟩ : ∃ K, K = (cl H.rn H.n).length := ⟨_, rfl⟩
          have HK := veil hK
          rw [← hK] at hlen
          rw [← hK, hba]
          clear hK hba
          generalize hnn : H.n = n at *
          clear hnn
          generalize H.a = ha at *
          go_wp2
          go_loop [10, 11] (fun d i => ∃ k : Nat, k ≤ n ∧ i = .int .i64 k ∧ ∃ bb : Bool, d = .bool bb ∧ Hid (bb = true ↔ ∃ j, j < k ∧ 1 < H.rn j)) (fun _ i => n - (intOf i).toNat)
          case atStart => exact ⟨0, Nat.zero_le _, rfl, false, rfl, by show _ ↔ _; simp⟩
          case round =>
            obtain ⟨k, hk, rfl, bb, rfl, HD⟩ := hrel
            by_cases hlt : k < n
            · have hli : (k : Int) < (n : Int) := by omega
              have g1 := keep HW5.out (HRO2.out k hlt)
              have hD1 : Hid (1 < H.rn k → (true = true ↔ ∃ j, j < k + 1 ∧ 1 < H.rn j)) := fun h1 => ⟨fun _ => ⟨k, by omega, h1⟩, fun _ => rfl⟩
              have hD2 : Hid (¬ 1 < H.rn k → (bb = true ↔ ∃ j, j < k + 1 ∧ 1 < H.rn j)) := by
                intro h1
                rw [HD.out]
                constructor
                · rintro ⟨j, hj, hj1⟩; exact ⟨j, by omega, hj1⟩
                · rintro ⟨j, hj, hj1⟩
                  by_cases e : j = k
                  · subst e; exact absurd hj1 h1
                  · exact ⟨j, by omega, hj1⟩
              obtain ⟨R, hR⟩ : ∃ R, R = H.rn k := ⟨_, rfl⟩
              rw [← hR] at g1 hD1 hD2
              clear hR
              by_cases t5 : 1 < R
              · have t5' : decide ((1 : Int) < (R : Int)) = true := by simp; omega
                go_wp2
                go_round
                case rel => exact ⟨k + 1, by omega, by go_num, true, rfl, hD1.out t5⟩
                case measure => simp [intOf]; omega
              · have t5' : decide ((1 : Int) < (R : Int)) = false := by simp; omega
                go_wp2
                go_round
                case rel => exact ⟨k + 1, by omega, by go_num, bb, rfl, hD2.out t5⟩
                case measure => simp [intOf]; omega
            · have hke : k = n := by omega
              rw [hke] at HD
              have q57 := eql57
              cases bb with
              | true =>
                go_wp2
                go_ret
                exact ⟨rfl, HW5.out⟩
              | false =>
                have hfew : decide ((K : Int) < (n : Int) - f) = true := by
                  have := HAB.out
                  rw [← HD.out] at this
                  rw [HK.out]
                  simpa using this
                go_wp2
                go_ret
                exact ⟨rfl, HW5.out⟩
        · have hone : ∀ j, j < H.n → H.rn j ≤ 1 := fun j hj => Nat.le_of_not_lt fun h1 => hab (.inl ⟨j, hj, h1⟩)
          have hmany : (H.n : Int) - f ≤ (cl H.rn H.n).length := Int.not_lt.1 fun h1 => hab (.inr h1)
          have HONE := veil hone
          have HMANY := veil hmany
          clear hab hone hmany
          go_wp2_with fail
          refine (zznd_made _ f w2 HHT.out ⟨HS.out.n, HS.out.rn, HS.out.xn⟩ HRH.out HF.out.rg (by omega) (by show f < (H.n : Int); omega) HONE.out HMANY.out HSH.out).mono ?_
          rintro e w3 ⟨g, b0, b1, p2, p3, sa, sn, sc, p5, rfl, ⟨rfl, rfl, rfl, rfl, hsr, hsb, ⟨vb, rfl, hv, hvc⟩, cb, rfl, hcv, hcc⟩, hg, hb3⟩
          dsimp only at hsr hvc hcc
          have HW3 := veil (HW2.out.trans (hb3.mono HW2.out.size))
          clear hb3 hg hsb hv hcv
          go_wp2_with fail
          have HBG := veil ((Below.refl w3.heap.size w3).alloc (Nat.le_refl _) (.cells #[.bool true, .bool false, .pointer (some ⟨vb, 0, none⟩), .pointer none, .slice sa (cl H.rn H.n).length sc, .pointer (some ⟨cb, 0, none⟩)] 59))
          have HW4 := veil (HW3.out.trans (HBG.out.mono HW3.out.size))
          refine (singles_any H _ (HH.out.keep HW4.out) HS.out).mono ?_
          rintro e w5 ⟨v, rfl, hC⟩
          obtain ⟨ca, cc, rfl, hhead, hcr, hcb⟩ := hC.row
          have hb5 := hC.bel
          have hlen := cl_len H.rn H.n
          have c0 : w5.cell? ⟨w3.heap.size, 0, none⟩ = some (.bool true) := by rw [hb5.cell (p := ⟨w3.heap.size, 0, none⟩) (by simp)]; simp
          have c1 : w5.cell? ⟨w3.heap.size, 1, none⟩ = some (.bool false) := by rw [hb5.cell (p := ⟨w3.heap.size, 1, none⟩) (by simp)]; simp
          have c2 : w5.cell? ⟨w3.heap.size, 2, none⟩ = some (.pointer (some ⟨vb, 0, none⟩)) := by rw [hb5.cell (p := ⟨w3.heap.size, 2, none⟩) (by simp)]; simp
          have c3 : w5.cell? ⟨w3.heap.size, 3, none⟩ = some (.pointer none) := by rw [hb5.cell (p := ⟨w3.heap.size, 3, none⟩) (by simp)]; simp
          have c4 : w5.cell? ⟨w3.heap.size, 4, none⟩ = some (.slice sa (cl H.rn H.n).length sc) := by rw [hb5.cell (p := ⟨w3.heap.size, 4, none⟩) (by simp)]; simp
          have c5 : w5.cell? ⟨w3.heap.size, 5, none⟩ = some (.pointer (some ⟨cb, 0, none⟩)) := by rw [hb5.cell (p := ⟨w3.heap.size, 5, none⟩) (by simp)]; simp
          have HW5 := veil (HW4.out.trans (hb5.mono HW4.out.size))
          have d1 := keep hb5 (keep HBG.out hvc)
          have d2 := keep hb5 (keep HBG.out hcc)
          have hs5 := (hsr.keep HBG.out).keep hb5
          clear hC hcb hhead hb5 hsr hvc hcc
          rcases HRO.out with h0 | ⟨b, o, hba, hro⟩
          · omega
          have hn20 : H.n ≤ 1048576 := HS.out.n
          have HRO2 := veil hro
          have hmany := HMANY.out
          have HRG := veil HF.out.rg
          clear hro
          obtain ⟨K, hK⟩ : ∃ K, K = (cl H.rn H.n).length := ⟨_, rfl⟩
          have HK := veil hK
          rw [← hK] at hlen hcr hs5 c4 hmany
          rw [← hK, hba]
          clear hK hba
          have hK0 : 0 < K := by omega
          have hK1 : (0 : Int) < (K : Int) := by omega
          rcases hcr with h0 | ⟨ib, io, rfl, hcr⟩
          · omega
          rcases hs5 with h0 | ⟨sb, so, rfl, hs5⟩
          · omega
          have HCR : Hid (∀ i, i < K → w5.cell? ⟨ib, io + i, none⟩ = some (.int .i64 (cand H.rn H.n i))) := hcr
          have HSR : Hid (∀ i, i < K → w5.cell? ⟨sb, so + i, none⟩ = some (.int .i64 (cand H.rn H.n i))) := hs5
          clear hcr hs5
          obtain ⟨ch, hch⟩ : ∃ ch, ch = chosen H.rn H.n H.X := ⟨_, rfl⟩
          have HCH := veil hch
          rw [← hch] at d1 d2
          clear hch
          have C0 := veil c0
          have C1 := veil c1
          have C2 := veil c2
          have C3 := veil c3
          have C4 := veil c4
          have C5 := veil c5
          have D1 := veil d1
          have D2 := veil d2
          clear c0 c1 c2 c3 c4 c5 d1 d2
          generalize hnn : H.n = n at *
          clear hnn
          generalize H.a = ha at *
          go_wp2
          go_loop [10, 11] (fun d i => ∃ k : Nat, k ≤ n ∧ i = .int .i64 k ∧ d = .bool false) (fun _ i => n - (intOf i).toNat)
          case atStart => exact ⟨0, Nat.zero_le _, rfl, rfl⟩
          case round =>
            obtain ⟨k, hk, rfl, rfl⟩ := hrel
            by_cases hlt : k < n
            · have hli : (k : Int) < (n : Int) := by omega
              have g1 := keep HW5.out (HRO2.out k hlt)
              have hR1 := HONE.out k hlt
              obtain ⟨R, hR⟩ : ∃ R, R = H.rn k := ⟨_, rfl⟩
              rw [← hR] at g1 hR1
              clear hR
              have t5' : decide ((1 : Int) < (R : Int)) = false := by simp; omega
              go_wp2
              go_round
              case rel => exact ⟨k + 1, by omega, by go_num, rfl⟩
              case measure => simp [intOf]; omega
            · have hke : k = n := by omega
              have hfew : decide ((K : Int) < (n : Int) - f) = false := by simp; omega
              obtain ⟨T, hT⟩ : ∃ T : Nat, n = K + T := ⟨n - K, by omega⟩
              have hT2 : ((n : Int) - K).toNat = T := by omega
              have hT0 : 0 ≤ (n : Int) - K := by omega
              have HT := veil hT
              have HTT : Hid (n - (cl H.rn n).length = T) := by show _ = _; rw [← HK.out]; omega
              clear hT
              go_wp2
              go_loop [13, 14] (fun s i => ∃ j : Nat, j ≤ K ∧ i = .int .i64 j ∧ ∃ S : Int, s = .int .u64 S ∧ 0 ≤ S ∧ S ≤ j * 1048576 ∧ Hid (S = rsum (xAt H.rn n H.X) K j)) (fun _ i => K - (intOf i).toNat)
              case atStart => exact ⟨0, Nat.zero_le _, rfl, 0, rfl, Int.le_refl _, by simp, by show _ = _; simp [rsum]⟩
              case round =>
                obtain ⟨j, hj, rfl, S, rfl, hS0, hS1, HSm⟩ := hrel
                by_cases hjt : j < K
                · have hjl : (j : Int) < (K : Int) := by omega
                  have g1 := HCR.out j hjt
                  obtain ⟨hc1, hc2⟩ := cand_mem (rn := H.rn) (n := n) (i := j) (by rw [← HK.out]; exact hjt)
                  have g2 := keep HW5.out (HRO2.out _ hc1)
                  have g3 := HTU.out _ hc1
                  have g4 := HNU.out _ hc1 0 (by omega)
                  have g5 := HSH.out _ hc1 hc2
                  have hnT := HT.out
                  have HV : Hid (rsum (xAt H.rn n H.X) K (j + 1) = S + H.X (cand H.rn n j) 0 T % K) := by show _ = _; rw [HSm.out]; simp only [rsum, xAt]; rw [HTT.out]
                  have hrg := HRG.out _ hc1 0 (by omega) T (by omega)
                  generalize cand H.rn n j = cj at *
                  rw [hc2] at g2 g3
                  rcases g3 with h0 | ⟨tb, tz, hra, g3⟩
                  · omega
                  rw [hra] at g2
                  have g6 := keep HW5.out (g3 0 (by omega)).2.2
                  simp only [Nat.zero_mul, Nat.add_zero] at g6
                  rcases g4 with h0 | ⟨xb, xo, hxa, g4⟩
                  · omega
                  rw [hxa] at g6
                  have g7 := keep HW5.out (g4 T (by omega))
                  have hcl : (cj : Int) < (n : Int) := by omega
                  have htx : (n : Int) - K < H.xn cj 0 := by omega
                  obtain ⟨hr0, hr1⟩ := hrg
                  have e0 := Int.emod_nonneg (H.X cj 0 T) (show (K : Int) ≠ 0 by omega)
                  have e1 := Int.emod_lt_of_pos (H.X cj 0 T) hK1
                  clear g3 g4 hra hxa g5 hnT
                  go_wp2
                  go_round
                  case rel => exact ⟨j + 1, by omega, by go_num, _, rfl, by omega, by omega, HV.out.symm⟩
                  case measure => simp [intOf]; omega
                · have hje : j = K := by omega
                  rw [hje] at HSm
                  obtain ⟨s, hs⟩ : ∃ s : Nat, S % (K : Int) = (s : Int) := ⟨(S % (K : Int)).toNat, by have := Int.emod_nonneg S (show (K : Int) ≠ 0 by omega); omega⟩
                  have hsK : s < K := by have := Int.emod_lt_of_pos S hK1; omega
                  have HPL : Hid (place H.rn n H.X = s) := by
                    show _ = _
                    unfold place
                    rw [← HK.out, ← HSm.out, hs]; simp
                  go_wp2
                  go_loop [16, 17, 18] (fun c p j => ∃ m pos : Nat, m ≤ n ∧ j = .int .i64 ((m : Int) - 1) ∧ c = .int .i64 (-1) ∧ p = .int .i64 pos ∧ pos ≤ s ∧ Hid (pos + (cl H.rn m).length = K)) (fun _ _ j => (intOf j + 1).toNat)
                  case atStart => exact ⟨n, 0, Nat.le_refl _, rfl, rfl, rfl, Nat.zero_le _, by show _ = _; rw [HK.out]; simp⟩
                  case round =>
                    obtain ⟨m, pos, hm, rfl, rfl, rfl, hpos, HP⟩ := hrel
                    cases m with
                    | zero => exfalso; have := HP.out; simp [cl] at this; omega
                    | succ m =>
                      have em : ((m + 1 : Nat) : Int) - 1 = (m : Int) := by omega
                      rw [em]
                      have hmn : m < n := by omega
                      have hml : (m : Int) < (n : Int) := by omega
                      have g1 := keep HW5.out (HRO2.out m hmn)
                      have hR1 := HONE.out m hmn
                      clear em
                      by_cases t5 : H.rn m = 1
                      · have g3 := HTU.out m hmn
                        rw [t5] at g1 g3
                        rcases g3 with h0 | ⟨tb, tz, hra, g3⟩
                        · omega
                        rw [hra] at g1
                        have g6 := keep HW5.out (g3 0 (by omega)).2.1
                        simp only [Nat.zero_mul, Nat.add_zero] at g6
                        have hlm : Hid (pos + (cl H.rn m).length + 1 = K) := by show _ = _; have := HP.out; rw [cl_one t5] at this; simp at this; omega
                        have HT5 := veil t5
                        clear g3 hra t5 hR1
                        by_cases t6 : pos = s
                        · subst t6
                          have hchm : ch = m := by
                            rw [HCH.out]
                            unfold chosen
                            rw [HPL.out, ← HK.out]
                            have h1 := hlm.out
                            rw [show K - 1 - pos = (cl H.rn m).length by omega, cand_prefix (j := m + 1) (by omega) (by rw [cl_one HT5.out]; simp), cand_last HT5.out]
                          subst hchm
                          have c0 := C0.out
                          have c1 := C1.out
                          have c2 := C2.out
                          have c3 := C3.out
                          have c4 := C4.out
                          have c5 := C5.out
                          have d1 := D1.out
                          have d2 := D2.out
                          have tn : decide ((ch : Int) < 0) = false := by simp
                          have q57 := eql57
                          go_wp2
                          go_quiet (fail)
                          generalize hw6 : w5.drewN nq = w6
                          have hb6 : Below w5.heap.size w5 w6 := by rw [← hw6]; exact below_drewN' w5 _
                          have HB6 := veil hb6
                          have e4 := keep hb6 c4
                          have C6 := veil e4
                          clear c0 c1 c2 c3 c4 c5 d1 d2 g1 g6 hw6 hb6 q57
                          go_wp2
                          clear e4
                          go_loopw [19] (fun i wr => ∃ j q : Nat, j ≤ K ∧ i = .int .i64 j ∧ wr = w6.drewN q) (fun i _ => K - (intOf i).toNat)
                          case atStart => exact ⟨0, 0, Nat.zero_le _, rfl, rfl⟩
                          case round =>
                            obtain ⟨j2, q2, hj2, rfl, rfl⟩ := hrel
                            by_cases hjt2 : j2 < K
                            · have hjl2 : (j2 : Int) < (K : Int) := by omega
                              have y1 := keep HB6.out (HCR.out j2 hjt2)
                              have y2 := keep HB6.out (HSR.out j2 hjt2)
                              have y4 := C6.out
                              go_wp2
                              go_quiet (fail)
                              go_wp2
                              go_roundw
                              case rel => exact ⟨j2 + 1, _, by omega, by go_num, rfl⟩
                              case measure => simp [intOf]; omega
                            · go_wp2
                              go_ret
                              exact ⟨rfl, below_drewN (HW5.out.trans (HB6.out.mono HW5.out.size)) _⟩
                        · have t6x : ((pos : Int) == s) = false := by simp; omega
                          have t6y : decide ((pos : Int) = s) = false := by simp; omega
                          go_wp2
                          go_round
                          case rel => exact ⟨m, pos + 1, by omega, by go_num, rfl, by go_num, by omega, by show _ = _; have := hlm.out; omega⟩
                          case measure => simp [intOf]
                      · have t5x : ((H.rn m : Int) != 1) = true := by simp; omega
                        have t5y : decide ((H.rn m : Int) = 1) = false := by simp; omega
                        have t5z : ((H.rn m : Int) == 1) = false := by simp; omega
                        have HP2 : Hid (pos + (cl H.rn m).length = K) := by have := HP.out; rw [cl_not t5] at this; exact this
                        clear t5
                        go_wp2
                        go_round
                        case rel => exact ⟨m, pos, by omega, by go_num, rfl, rfl, by omega, HP2⟩
                        case measure => simp [intOf]
    · have t3' : decide ((H.n : Int) = x) = false := by simp; omega
      have t3'' : ((H.n : Int) == x) = false := by simp; omega
      have t3''' : ((H.n : Int) != x) = true := by simp; omega
      go_wp2
      go_ret
      exact ⟨rfl, below_drewN' w q⟩
end Go.Proofs.Qxb6605338a
