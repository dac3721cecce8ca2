/-
  Seat b6605338a. The walk of FnNaiveDecideStep (6).
-/
import Derived.Test.Qxb6605338aMoved
import Derived.Test.Qxb6605338aExactWalk
namespace Go.Proofs.Qxb6605338a
open Go.RowKit
set_option linter.unusedVariables false

theorem nx_of {w5 w6 : World} {L T : Nat} {X : Nat → Int} {v : Int} (h : LoopN w5 w6 L L X) : RowI .u64 (w6.setCell ⟨w5.heap.size, T, none⟩ (.int .u64 v)) (some ⟨w5.heap.size, 0, none⟩) L (fun q => if q = T then v else X q) := by
  obtain ⟨⟨f, h1, h2⟩, h3⟩ := h
  refine .inr ⟨_, 0, rfl, fun i hi => ?_⟩
  rw [Nat.zero_add, (h1.set T _).cell hi]
  by_cases e : i = T
  · subst e; simp [upd_same]
  · rw [upd_ne _ _ e, h2 i hi]; simp [e]

set_option maxRecDepth 100000 in
set_option maxHeartbeats 4000000 in
theorem walk6 (x f : Int) (H : Held) (w : World) (h : IsHeld w H) (hfit : Fit H) :
    Calls Try.prog 6 #[.int .i64 x, .int .i64 f, .slice H.a H.n H.c] w fun e w' => e = .returned (.bool true) ∧ Below w.heap.size w w' := by
  have HH := veil h
  have HF := veil hfit
  have HRO := veil h.rows
  have HTU := veil h.tups
  have HNU := veil h.nums
  clear h hfit
  go_enter Try.func6, Try.ntmps6
  go_wp2_with fail
  refine (zz22_any x f H w HH.out).mono ?_
  rintro e w0 ⟨⟨r, rfl⟩, rfl⟩
  cases r with
  | false =>
    go_wp2
    go_ret
    exact ⟨rfl, Below.refl _ _⟩
  | true =>
    go_wp2_with fail
    refine (heldBytes_any H w HH.out).mono ?_
    rintro e w2 ⟨B, rfl, hB, q, rfl⟩
    by_cases hBL : 1048576 < B
    · go_wp2
      go_ret
      exact ⟨rfl, below_drewN' w q⟩
    have HS := veil (hB (by omega))
    have hBL' : decide ((1048576 : Int) < B) = false := by simp; omega
    clear hB hBL
    by_cases t1 : f < 0
    · have t1' : decide (f < 0) = true := by simp; omega
      go_wp2
      go_ret
      exact ⟨rfl, below_drewN' w q⟩
    have t1' : decide (f < 0) = false := by simp; omega
    by_cases t2 : x ≤ f
    · have t2' : decide (x ≤ f) = true := by simp; omega
      go_wp2
      go_ret
      exact ⟨rfl, below_drewN' w q⟩
    have t2' : decide (x ≤ f) = false := by simp; omega
    by_cases t3 : (H.n : Int) = x
    · subst t3
      go_wp2_with fail
      refine (heldShaped_any f H (w.drewN q) (HH.out.keep (below_drewN' w q)) HS.out).mono ?_
      rintro e w3 ⟨⟨r, rfl, hr⟩, rfl⟩
      cases r with
      | false =>
        go_wp2
        go_ret
        exact ⟨rfl, below_drewN' w q⟩
      | true =>
        have HSH := veil (hr rfl)
        clear hr
        have hW1 := below_drewN' w q
        generalize w.drewN q = w1 at *
        have HW1 := veil hW1
        clear hW1
        rcases HRO.out with h0 | ⟨b, o, hba, hro⟩
        · omega
        have hn20 : H.n ≤ 1048576 := HS.out.n
        have HRO2 := veil hro
        have HBA := veil hba
        clear hro hba
        go_wp2
        go_loop [7] (fun i => ∃ k : Nat, k ≤ H.n ∧ i = .int .i64 k ∧ Hid (∀ j, j < k → H.rn j ≤ 1)) (fun i => H.n - (intOf i).toNat)
        case atStart => exact ⟨0, Nat.zero_le _, rfl, fun j hj => by omega⟩
        case round =>
          obtain ⟨k, hk, rfl, HL⟩ := hrel
          by_cases hlt : k < H.n
          · have hli : (k : Int) < (H.n : Int) := by omega
            have g1 := keep HW1.out (HRO2.out k hlt)
            have hix := HBA.out
            have hD2 : Hid (¬ 1 < H.rn k → ∀ j, j < k + 1 → H.rn j ≤ 1) := by
              intro h1 j hj
              by_cases e : j = k
              · subst e; omega
              · exact HL.out j (by omega)
            obtain ⟨R, hR⟩ : ∃ R, R = H.rn k := ⟨_, rfl⟩
            rw [← hR] at g1 hD2
            clear hR
            by_cases t5 : 1 < R
            · have t5' : decide ((1 : Int) < (R : Int)) = true := by simp; omega
              go_wp2
              go_ret
              exact ⟨rfl, HW1.out⟩
            · have t5' : decide ((1 : Int) < (R : Int)) = false := by simp; omega
              have HR2 := veil (hD2.out t5)
              clear hD2 t5
              go_wp2
              go_round
              case rel => exact ⟨k + 1, by omega, by go_num, HR2⟩
              case measure => simp [intOf]; omega
          · have hke : k = H.n := by omega
            rw [hke] at HL
            go_wp2_with fail
            refine (singles_any H _ (HH.out.keep HW1.out) HS.out).mono ?_
            rintro e w5 ⟨v, rfl, hC⟩
            obtain ⟨ca, cc, rfl, hhead, hcr, hcb⟩ := hC.row
            have HW5 := veil (HW1.out.trans (hC.bel.mono HW1.out.size))
            have hlen := cl_len H.rn H.n
            clear hC hcb hhead
            obtain ⟨K, hK⟩ : ∃ K, K = (cl H.rn H.n).length := ⟨_, rfl⟩
            have HK := veil hK
            rw [← hK] at hlen hcr
            rw [← hK]
            clear hK
            have HCR0 := veil hcr
            clear hcr
            have hixa := HBA.out
            by_cases t6 : (K : Int) < H.n - f
            · have t6' : decide ((K : Int) < (H.n : Int) - f) = true := by simp; omega
              go_wp2
              go_ret
              exact ⟨rfl, HW5.out⟩
            have t6' : decide ((K : Int) < (H.n : Int) - f) = false := by simp; omega
            rcases HCR0.out with h0 | ⟨ib, io, rfl, hcr⟩
            · omega
            have HCR : Hid (∀ i, i < K → w5.cell? ⟨ib, io + i, none⟩ = some (.int .i64 (cand H.rn H.n i))) := hcr
            clear hcr
            have hK0 : 0 < K := by omega
            have hK1 : (0 : Int) < (K : Int) := by omega
            obtain ⟨T, hT⟩ : ∃ T : Nat, H.n = K + T := ⟨H.n - K, by omega⟩
            have hT2 : ((H.n : Int) - K).toNat = T := by omega
            have hT0 : 0 ≤ (H.n : Int) - K := by omega
            have HT := veil hT
            have HTT : Hid (H.n - (cl H.rn H.n).length = T) := by show _ = _; rw [← HK.out]; omega
            clear hT
            have y0 := HCR.out 0 hK0
            rw [Nat.add_zero] at y0
            obtain ⟨hc1, hc2⟩ := cand_mem (rn := H.rn) (n := H.n) (i := 0) (by rw [← HK.out]; exact hK0)
            have g2 := keep HW5.out (HRO2.out _ hc1)
            have g3 := HTU.out _ hc1
            have g4 := HNU.out _ hc1 0 (by omega)
            have g5 := HSH.out _ hc1 hc2
            have gl := HS.out.xn _ hc1 0 (by omega)
            have hrg := HF.out.rg _ hc1 0 (by omega) T (by have := HT.out; omega)
            obtain ⟨c0, hc0⟩ : ∃ c0, c0 = cand H.rn H.n 0 := ⟨_, rfl⟩
            have HC0 := veil hc0
            rw [← hc0] at y0 hc1 hc2 g2 g3 g4 g5 gl hrg
            rw [hc2] at g2 g3
            clear hc0
            rcases g3 with h0 | ⟨tb, tz, hra, g3⟩
            · omega
            rw [hra] at g2
            have g6 := keep HW5.out (g3 0 (by omega)).2.2
            simp only [Nat.zero_mul, Nat.add_zero] at g6
            have hnT := HT.out
            rcases g4 with h0 | ⟨xb, xo, hxa, g4⟩
            · omega
            rw [hxa] at g6
            have HX4 := veil g4
            have g7 := keep HW5.out (g4 T (by omega))
            have hcl : (c0 : Int) < (H.n : Int) := by omega
            have htx : (H.n : Int) - K < H.xn c0 0 := by omega
            have HC1 := veil hc1
            have HC2 := veil hc2
            obtain ⟨xv, hxv⟩ : ∃ xv, xv = H.X c0 0 T := ⟨_, rfl⟩
            have HXV := veil hxv
            rw [← hxv] at g7 hrg
            obtain ⟨L, hL⟩ : ∃ L, L = H.xn c0 0 := ⟨_, rfl⟩
            have HL2 := veil hL
            rw [← hL] at g6 htx gl HX4
            obtain ⟨up, hup⟩ : ∃ up : Bool, up = (xv != 18446744073709551615) := ⟨_, rfl⟩
            have HUP := veil hup
            have hup' := hup.symm
            have hTL : T < L := by omega
            clear g3 g4 hra hxa g5 hnT hxv hL hup hc1 hc2
            have hmk := make65 L gl
            go_wp2
            clear hmk y0 g2 g6 g7
            go_loopw [16] (fun i wr => ∃ j : Nat, j ≤ L ∧ i = .int .i64 j ∧ Hid (LoopN w5 wr L j (H.X c0 0))) (fun i _ => L - (intOf i).toNat)
            case atStart =>
              refine ⟨0, Nat.zero_le _, rfl, ?_⟩
              obtain ⟨f, hf⟩ := Own.new' w5 (madeCells #[.int .u64 0] L) 27 (N := L) (size_madeCells _ _)
              exact ⟨⟨f, hf, fun i hi => by omega⟩, (Below.refl _ _).alloc (Nat.le_refl _) _⟩
            case round =>
              obtain ⟨j, hj, rfl, HN⟩ := hrel
              by_cases hjt : j < L
              · have hjl : (j : Int) < (L : Int) := by omega
                have z0 := keep HN.out.bel (keep HW5.out (HX4.out j hjt))
                obtain ⟨⟨ff, hown, _⟩, _⟩ := HN.out
                have z1 := hown.cell (i := j) hjt
                have z2 := hown.frozen j
                have HN2 := veil (HN.out.step _ rfl)
                clear hown
                go_wp2
                go_roundw
                case rel => exact ⟨j + 1, by omega, by go_num, HN2⟩
                case measure => simp [intOf]; omega
              · have hje : j = L := by omega
                rw [hje] at HN
                obtain ⟨w6, h6⟩ : ∃ x, x = wr := ⟨_, rfl⟩
                subst h6
                obtain ⟨v, hv⟩ : ∃ v, v = if up then xv + 1 else xv + -1 := ⟨_, rfl⟩
                have HV := veil hv
                obtain ⟨⟨ff, hown, hff⟩, _⟩ := HN.out
                have z1 := hown.cell (i := T) hTL
                have z2 := hown.frozen T
                clear hv hff
                go_upto_if 103 with (fail)
                go_cut [16] (fun s wc => s = .int .i64 L ∧ wc = w6.setCell ⟨w5.heap.size, T, none⟩ (.int .u64 v))
                case first =>
                  cases up with
                  | true =>
                    have hv := HV.out
                    simp only [if_true] at hv
                    have hlt2 : xv < 18446744073709551615 := by
                      have := HUP.out
                      simp at this
                      omega
                    go_wp2
                    go_meet
                    case rel => exact ⟨by first | rfl | rw [hje], by rw [hv]⟩
                  | false =>
                    have hv := HV.out
                    have hx2 : xv = 18446744073709551615 := by
                      have := HUP.out
                      simpa using this.symm
                    simp only [Bool.false_eq_true, if_false] at hv
                    go_wp2
                    go_meet
                    case rel => exact ⟨by first | rfl | rw [hje], by rw [hv]; first | rfl | simp [hx2]⟩
                case rest =>
                  obtain ⟨rfl, rfl⟩ := hcut
                  have hnx := nx_of HN.out (T := T) (v := v)
                  have hb57 : Below w5.heap.size w5 (w6.setCell ⟨w5.heap.size, T, none⟩ (.int .u64 v)) := HN.out.bel.setCell (Nat.le_refl _) _
                  have hnb : w5.heap.size < (w6.setCell ⟨w5.heap.size, T, none⟩ (.int .u64 v)).heap.size := by have := hown.lt; simpa [World.setCell] using this
                  generalize w6.setCell ⟨w5.heap.size, T, none⟩ (.int .u64 v) = w7 at *
                  have HB57 := veil hb57
                  have HB7 := veil (HW5.out.trans (hb57.mono HW5.out.size))
                  have HNX : Hid (RowI .u64 w7 (some ⟨w5.heap.size, 0, none⟩) (H.xn c0 0) (turn H.X c0 T v c0 0)) := by
                    have e : turn H.X c0 T v c0 0 = fun q => if q = T then v else H.X c0 0 q := by funext q; simp [turn]
                    rw [e, ← HL2.out]; exact hnx
                  have HNB := veil hnb
                  clear hnx hb57 hnb hown z1 z2
                  go_wp2_with fail
                  have hcall := toTuples_any H w7 (HH.out.keep HB7.out) HS.out HF.out
                  rw [HBA.out] at hcall
                  refine hcall.mono ?_
                  clear hcall
                  rintro e w8 ⟨ra8, xa8, rfl, hT8⟩
                  obtain ⟨rb, fb, hrac, horb, hrlt, hmov⟩ := moved_of hT8 HC1.out HC2.out HNB.out HNX.out
                  obtain ⟨fo, hoo, hod⟩ := hT8.own
                  have x0 := hoo.cell HC1.out
                  rw [hod _ HC1.out, hrac, HC2.out] at x0
                  have x1 := horb.cell (i := 2) (by omega)
                  have x2 := horb.frozen 2
                  have hb9 : Below w7.heap.size w7 (w8.setCell ⟨rb, 2, none⟩ (.slice (some ⟨w5.heap.size, 0, none⟩) L L)) := hT8.bel.setCell (Nat.le_of_lt hrlt) _
                  rw [← HL2.out] at hmov
                  have HM := veil hmov
                  have HB9 := veil hb9
                  have HRH8 : Hid (∀ i, i < H.n → ra8 i = none → H.rn i = 0) := fun i hi => (hT8.tup i hi).rh
                  clear hmov hb9 hoo hod horb hT8 hrac
                  go_wp2_with fail
                  generalize w8.setCell ⟨rb, 2, none⟩ (.slice (some ⟨w5.heap.size, 0, none⟩) L L) = w9 at *
                  have HBW9 := veil (HB7.out.trans (HB9.out.mono HB7.out.size))
                  clear x0 x1 x2
                  have hcall := toTuples_any H w9 (HH.out.keep HBW9.out) HS.out HF.out
                  rw [HBA.out] at hcall
                  refine hcall.mono ?_
                  clear hcall
                  rintro e w10 ⟨ra10, xa10, rfl, hT10⟩
                  have HHT := veil hT10.held
                  have HB10 := veil hT10.bel
                  have HRH10 : Hid (∀ i, i < H.n → ra10 i = none → H.rn i = 0) := fun i hi => (hT10.tup i hi).rh
                  have HBW10 := veil (HBW9.out.trans (HB10.out.mono HBW9.out.size))
                  have HMANY : Hid ((H.n : Int) - f ≤ (cl H.rn H.n).length) := by show _ ≤ _; rw [← HK.out]; omega
                  clear hT10
                  go_wp2_with fail
                  refine (zznd_made _ f w10 HHT.out ⟨HS.out.n, HS.out.rn, HS.out.xn⟩ HRH10.out HF.out.rg (by omega) (by show f < (H.n : Int); omega) HL.out HMANY.out HSH.out).mono ?_
                  rintro e w11 ⟨g1, b0, b1, p2, p3, sa, sn, sc, p5, rfl, ⟨rfl, rfl, rfl, rfl, hsr, hsb, ⟨vb, rfl, hv, hvc⟩, cb, rfl, hcv, hcc⟩, hg, hb11⟩
                  dsimp only at hvc hcc
                  have HB11 := veil hb11
                  have HBW11 := veil (HBW10.out.trans (HB11.out.mono HBW10.out.size))
                  clear hb11 hg hsb hv hcv hsr
                  go_wp2_with fail
                  have HBA1 := veil ((Below.refl w11.heap.size w11).alloc (Nat.le_refl _) (.cells #[.bool true, .bool false, .pointer (some ⟨vb, 0, none⟩), .pointer none, .slice sa (cl H.rn H.n).length sc, .pointer (some ⟨cb, 0, none⟩)] 59))
                  have HM12 := veil (((HM.out.keep HB10.out).keep HB11.out).keep HBA1.out)
                  refine (zznd_made _ f _ HM12.out ⟨HS.out.n, HS.out.rn, HS.out.xn⟩ HRH8.out ?rg2 (by omega) (by show f < (H.n : Int); omega) HL.out HMANY.out HSH.out).mono ?_
                  case rg2 =>
                    intro i hi j hj q hq
                    show 0 ≤ turn H.X c0 T v i j q ∧ turn H.X c0 T v i j q < 18446744073709551616
                    unfold turn
                    split
                    · rw [HV.out]
                      have hup3 := HUP.out
                      cases up with
                      | true =>
                        have : ¬ xv = 18446744073709551615 := by simpa using hup3
                        simp only [if_true]; omega
                      | false =>
                        have : xv = 18446744073709551615 := by simpa using hup3.symm
                        simp only [Bool.false_eq_true, if_false]; omega
                    · exact HF.out.rg i hi j hj q hq
                  rintro e w13 ⟨g2, b0, b1, p2, p3, sa2, sn2, sc2, p5, rfl, ⟨rfl, rfl, rfl, rfl, hsr, hsb, ⟨vb2, rfl, hv, hvc2⟩, cb2, rfl, hcv, hcc2⟩, hg, hb13⟩
                  dsimp only at hvc2 hcc2
                  have d0 : w13.cell? ⟨w11.heap.size, 0, none⟩ = some (.bool true) := by rw [hb13.cell (p := ⟨w11.heap.size, 0, none⟩) (by simp)]; simp
                  have d1 : w13.cell? ⟨w11.heap.size, 1, none⟩ = some (.bool false) := by rw [hb13.cell (p := ⟨w11.heap.size, 1, none⟩) (by simp)]; simp
                  have d2 : w13.cell? ⟨w11.heap.size, 2, none⟩ = some (.pointer (some ⟨vb, 0, none⟩)) := by rw [hb13.cell (p := ⟨w11.heap.size, 2, none⟩) (by simp)]; simp
                  have d5 : w13.cell? ⟨w11.heap.size, 5, none⟩ = some (.pointer (some ⟨cb, 0, none⟩)) := by rw [hb13.cell (p := ⟨w11.heap.size, 5, none⟩) (by simp)]; simp
                  have e1 := keep hb13 (keep HBA1.out hvc)
                  have e2 := keep hb13 (keep HBA1.out hcc)
                  have HB13 := veil (((HB10.out.trans (HB11.out.mono HB10.out.size)).trans (HBA1.out.mono (Nat.le_trans HB10.out.size HB11.out.size))).trans (hb13.mono (by have h1 := HB10.out.size; have h2 := HB11.out.size; simp; omega)))
                  have HB5 := veil ((HB57.out.trans (HB9.out.mono HB57.out.size)).trans (HB13.out.mono (Nat.le_trans HB57.out.size HB9.out.size)))
                  have HBW13 := veil (HW5.out.trans (HB5.out.mono HW5.out.size))
                  have hlt13 : w11.heap.size < w13.heap.size := by have := hb13.size; simp at this; omega
                  clear hb13 hg hsb hv hcv hsr hvc hcc
                  go_wp2_with fail
                  have hba2 := (Below.refl w13.heap.size w13).alloc (Nat.le_refl _) (.cells #[.bool true, .bool false, .pointer (some ⟨vb2, 0, none⟩), .pointer none, .slice sa2 (cl H.rn H.n).length sc2, .pointer (some ⟨cb2, 0, none⟩)] 59)
                  have m2 : (w13.alloc (.cells #[.bool true, .bool false, .pointer (some ⟨vb2, 0, none⟩), .pointer none, .slice sa2 (cl H.rn H.n).length sc2, .pointer (some ⟨cb2, 0, none⟩)] 59)).cell? ⟨w13.heap.size, 2, none⟩ = some (.pointer (some ⟨vb2, 0, none⟩)) := by simp
                  have m5 : (w13.alloc (.cells #[.bool true, .bool false, .pointer (some ⟨vb2, 0, none⟩), .pointer none, .slice sa2 (cl H.rn H.n).length sc2, .pointer (some ⟨cb2, 0, none⟩)] 59)).cell? ⟨w13.heap.size, 5, none⟩ = some (.pointer (some ⟨cb2, 0, none⟩)) := by simp
                  have n2 := keep hba2 d2
                  have n5 := keep hba2 d5
                  have o1 := keep hba2 e1
                  have o2 := keep hba2 e2
                  have o3 := keep hba2 hvc2
                  have o4 := keep hba2 hcc2
                  have HB5' := veil (HB5.out.trans (hba2.mono HB5.out.size))
                  have HBW := veil (HBW13.out.trans (hba2.mono HBW13.out.size))
                  generalize w13.alloc (.cells #[.bool true, .bool false, .pointer (some ⟨vb2, 0, none⟩), .pointer none, .slice sa2 (cl H.rn H.n).length sc2, .pointer (some ⟨cb2, 0, none⟩)] 59) = w14 at *
                  clear hba2 d0 d1 d2 d5 e1 e2 hvc2 hcc2
                  obtain ⟨p, hp⟩ : ∃ p, p = (cl H.rn H.n).length - 1 - place H.rn H.n H.X := ⟨_, rfl⟩
                  have hpl : place H.rn H.n H.X < K := by rw [HK.out]; exact place_lt (by rw [← HK.out]; exact hK0)
                  have hpK : p < K := by rw [hp, ← HK.out]; omega
                  have HC3 : Hid (chosen H.rn H.n H.X = cand H.rn H.n p) := by show _ = _; unfold chosen; rw [← hp]
                  have HP := veil hp
                  rw [HC3.out] at o1 o2
                  have O1 := veil o1
                  have O3 := veil o3
                  have O4 := veil o4
                  have M2 := veil m2
                  have M5 := veil m5
                  have N2 := veil n2
                  clear hp o1 o3 o4 m2 m5 n2 hpl
                  go_loopw [20, 21] (fun s i wr => ∃ j q : Nat, j ≤ K ∧ i = .int .i64 j ∧ wr = w14.drewN q ∧ ∃ z : Int, s = .int .i64 z ∧ Hid (z = if p < j then (p : Int) else -1)) (fun _ i _ => K - (intOf i).toNat)
                  case atStart => exact ⟨0, 0, Nat.zero_le _, rfl, rfl, -1, rfl, rfl⟩
                  case round =>
                    obtain ⟨j2, q2, hj2, rfl, rfl, z, rfl, HZ⟩ := hrel
                    by_cases hjt2 : j2 < K
                    · have hjl2 : (j2 : Int) < (K : Int) := by omega
                      have y1 := keep HB5'.out (HCR.out j2 hjt2)
                      by_cases ejp : j2 = p
                      · subst ejp
                        go_wp2
                        go_quiet (fail)
                        go_wp2
                        go_roundw
                        case rel => exact ⟨j2 + 1, _, by omega, by go_num, rfl, _, rfl, by show _ = _; simp⟩
                        case measure => simp [intOf]; omega
                      · have hcne : ¬ cand H.rn H.n j2 = cand H.rn H.n p := fun hh => ejp (cand_inj (by rw [← HK.out]; exact hjt2) (by rw [← HK.out]; exact hpK) hh)
                        have u1 : ((cand H.rn H.n j2 : Int) == (cand H.rn H.n p : Int)) = false := by simp; omega
                        have u2 : decide ((cand H.rn H.n j2 : Int) = (cand H.rn H.n p : Int)) = false := by simp; omega
                        clear hcne
                        go_wp2
                        go_quiet (fail)
                        go_wp2
                        go_roundw
                        case rel => exact ⟨j2 + 1, _, by omega, by go_num, rfl, _, rfl, by show _ = _; rw [HZ.out]; by_cases h1 : p < j2; (rw [if_pos h1, if_pos (by omega)]); (rw [if_neg h1, if_neg (by omega)])⟩
                        case measure => simp [intOf]; omega
                    · have hz : z = (p : Int) := by rw [HZ.out, if_pos (by omega)]
                      subst hz
                      have hKl : 0 < (cl H.rn H.n).length := by rw [← HK.out]; exact hK0
                      obtain ⟨i2, hi2K, hch2, hi2⟩ : ∃ i2 : Nat, i2 < K ∧ chosen H.rn H.n (turn H.X c0 T v) = cand H.rn H.n i2 ∧ (i2 : Int) = if up then ((p : Int) + K - 1) % K else ((p : Int) + 1) % K := by
                        have hx0 : xAt H.rn H.n H.X 0 = xv := by unfold xAt; rw [HTT.out, ← HC0.out, HXV.out]
                        refine ⟨(cl H.rn H.n).length - 1 - place H.rn H.n (turn H.X c0 T v), by rw [← HK.out]; omega, rfl, ?_⟩
                        rw [HC0.out, ← HTT.out, HV.out, ← hx0]
                        cases up with
                        | true =>
                          simp only [if_true]
                          rw [place_up hKl, ← HP.out, ← HK.out]
                          have : ((p + K - 1 : Nat) : Int) = (p : Int) + K - 1 := by omega
                          rw [Int.natCast_emod, this]
                        | false =>
                          simp only [Bool.false_eq_true, if_false]
                          rw [place_down hKl, ← HP.out, ← HK.out, Int.natCast_emod]
                          simp
                      have o3 := O3.out
                      have o4 := O4.out
                      rw [hch2] at o3 o4
                      have o1 := O1.out
                      have m2 := M2.out
                      have m5 := M5.out
                      have n2 := N2.out
                      have y1 := keep HB5'.out (HCR.out p hpK)
                      have y2 := keep HB5'.out (HCR.out i2 hi2K)
                      obtain ⟨a1, a2⟩ := cand_mem (rn := H.rn) (n := H.n) (i := p) (by rw [← HK.out]; exact hpK)
                      obtain ⟨a3, a4⟩ := cand_mem (rn := H.rn) (n := H.n) (i := i2) (by rw [← HK.out]; exact hi2K)
                      have k1 := keep HBW.out (HRO2.out _ a1)
                      have k2 := keep HBW.out (HRO2.out _ a3)
                      have k3 := HTU.out _ a1
                      have k4 := HTU.out _ a3
                      rw [a2] at k1 k3
                      rw [a4] at k2 k4
                      rcases k3 with h0 | ⟨tb1, tz1, hra1, k3⟩
                      · omega
                      rcases k4 with h0 | ⟨tb2, tz2, hra2, k4⟩
                      · omega
                      rw [hra1] at k1
                      rw [hra2] at k2
                      have k5 := keep HBW.out (k3 0 (by omega)).2.1
                      have k6 := keep HBW.out (k4 0 (by omega)).2.1
                      simp only [Nat.zero_mul, Nat.add_zero] at k5 k6
                      have l1 : (cand H.rn H.n p : Int) < (H.n : Int) := by omega
                      have l2 : (cand H.rn H.n i2 : Int) < (H.n : Int) := by omega
                      have l3 : (p : Int) < (K : Int) := by omega
                      have l4 : (i2 : Int) < (K : Int) := by omega
                      generalize hcp : cand H.rn H.n p = cp at *
                      generalize hci : cand H.rn H.n i2 = ci at *
                      have HI2 := veil hi2
                      clear k3 k4 hra1 hra2 a1 a2 a3 a4 hch2 hcp hci hi2
                      cases up with
                      | true =>
                        have hi3 := HI2.out
                        simp only [if_true] at hi3
                        have hi4 := hi3.symm
                        clear hi3
                        go_wp2
                        go_quiet (fail)
                        go_wp2
                        go_ret
                        exact ⟨by simp, below_drewN (below_drewN HBW.out _) _⟩
                      | false =>
                        have hi3 := HI2.out
                        simp only [Bool.false_eq_true, if_false] at hi3
                        have hi4 := hi3.symm
                        clear hi3
                        go_wp2
                        go_quiet (fail)
                        go_wp2
                        go_ret
                        exact ⟨by simp, below_drewN (below_drewN HBW.out _) _⟩
    · have t3' : decide ((H.n : Int) = x) = false := by simp; omega
      have t3'' : ((H.n : Int) == x) = false := by simp; omega
      have t3''' : ((H.n : Int) != x) = true := by simp; omega
      go_wp2
      go_ret
      exact ⟨rfl, below_drewN' w q⟩
end Go.Proofs.Qxb6605338a
