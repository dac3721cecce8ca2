/-
  Seat b6605338a. 'allowedStatus' (25) and its front 'ZZAllowedStatus' (15).
-/
import Derived.Test.Qxb6605338aHeard
namespace Go.Proofs.Qxb6605338a
open Go.RowKit
set_option linter.unusedVariables false

theorem as_none {n id frm round : Int} {sn hn : Nat} {SA SR SP HA : Nat → Int} {hmi : Nat → Bool} {j : Nat} (hj : j ≤ n.toNat) (h : mrun frm sn hn SA HA j = none) : as' n id frm round sn hn SA SR SP HA hmi = false := by
  unfold as'; rw [mrun_none hj h]; rfl
theorem as_short {n id frm round : Int} {sn hn c k : Nat} {SA SR SP HA : Nat → Int} {hmi : Nat → Bool} (h : mrun frm sn hn SA HA n.toNat = some (c, k)) (hne : c < sn ∨ k < hn) : as' n id frm round sn hn SA SR SP HA hmi = false := by
  unfold as'
  rw [h]
  have : ¬ (some (c, k) = some (sn, hn)) := by simp; omega
  rw [decide_eq_false this]; rfl
theorem as_full {n id frm round : Int} {sn hn : Nat} {SA SR SP HA : Nat → Int} {hmi : Nat → Bool} (h : mrun frm sn hn SA HA n.toNat = some (sn, hn)) : as' n id frm round sn hn SA SR SP HA hmi = (allB (asS n id round SA SR SP) sn && allB hmi hn) := by
  unfold as'; rw [h]; simp

theorem step_frm {frm : Int} {sn hn c h j : Nat} {SA HA : Nat → Int} (hr : mrun frm sn hn SA HA j = some (c, h)) (e : (j : Int) = frm) : mrun frm sn hn SA HA (j + 1) = some (c, h) := by rw [mrun_succ, hr]; simp only [mstep, if_pos e]
theorem step_s {frm : Int} {sn hn c h j : Nat} {SA HA : Nat → Int} (hr : mrun frm sn hn SA HA j = some (c, h)) (e : ¬ (j : Int) = frm) (e1 : c < sn) (e2 : SA c = j) : mrun frm sn hn SA HA (j + 1) = some (c + 1, h) := by rw [mrun_succ, hr]; simp only [mstep, if_neg e, if_pos (And.intro e1 e2)]
theorem step_h {frm : Int} {sn hn c h j : Nat} {SA HA : Nat → Int} (hr : mrun frm sn hn SA HA j = some (c, h)) (e : ¬ (j : Int) = frm) (e1 : ¬ (c < sn ∧ SA c = j)) (e2 : h < hn) (e3 : HA h = j) : mrun frm sn hn SA HA (j + 1) = some (c, h + 1) := by rw [mrun_succ, hr]; simp only [mstep, if_neg e, if_neg e1, if_pos (And.intro e2 e3)]
theorem step_none {frm : Int} {sn hn c h j : Nat} {SA HA : Nat → Int} (hr : mrun frm sn hn SA HA j = some (c, h)) (e : ¬ (j : Int) = frm) (e1 : ¬ (c < sn ∧ SA c = j)) (e2 : ¬ (h < hn ∧ HA h = j)) : mrun frm sn hn SA HA (j + 1) = none := by rw [mrun_succ, hr]; simp only [mstep, if_neg e, if_neg e1, if_neg e2]

set_option maxRecDepth 100000 in
set_option maxHeartbeats 4000000 in
theorem allowedStatus_any (g : Nat) (n id rnd frm dst mr num : Int) (val : ByteArray) (stamp : Int) (sa : Option Addr) (sn sc : Nat) (SA SR SP : Nat → Int) (ha : Option Addr) (hn hc : Nat) (HA HN HS : Nat → Int) (pa : Nat → Option Addr) (pn pc : Nat → Nat) (PA PN PS : Nat → Nat → Int) (w : World)
    (hag : IsAgent w g n id rnd) (hst : Row3 .i64 .i64 .i64 w sa sn SA SR SP) (hhd : Row4 w ha hn HA HN HS pa pn pc) (hps : ∀ i, i < hn → Row3 .i64 .u64 .u64 w (pa i) (pn i) (PA i) (PN i) (PS i)) (hsn : sn ≤ 1048576) (hhn : hn ≤ 1048576) (hpn : ∀ i, i < hn → pn i ≤ 1048576) (hnn : n ≤ 65536)
    (r : Bool) (hr : r = as' n id frm rnd sn hn SA SR SP HA (fun i => hm n (wrap64 (rnd - 1)) (HA i) (HS i) (pa i).isNone (pn i) (PA i) (PS i))) :
    Calls Try.prog 25 #[.pointer (some ⟨g, 0, none⟩), .agg #[.int .i64 frm, .int .i64 dst, .int .i64 mr, .int .u64 num, .string val, .int .u64 stamp, .slice none 0 0, .slice sa sn sc, .slice ha hn hc, .slice none 0 0]] w fun e w' => e = .returned (.bool r) ∧ Below w.heap.size w w' := by
  have HST := hide hst
  have HHD := hide hhd
  have HPS := hide hps
  have HPN := hide hpn
  have HR := hide hr
  have HAG := hide hag
  obtain ⟨a0, a2, a13⟩ := hag
  have hgl : g < w.heap.size := World.block_lt_of_cell? w _ a0
  clear hst hhd hps hr hpn a2 a13
  go_enter Try.func25, Try.ntmps25
  go_wp2
  go_loop [5, 6, 17] (fun s t i => ∃ j c h : Nat, j ≤ n.toNat ∧ i = .int .i64 j ∧ s = .int .i64 c ∧ t = .int .i64 h ∧ c ≤ sn ∧ h ≤ hn ∧ Hid (mrun frm sn hn SA HA j = some (c, h))) (fun _ _ i => n.toNat - (intOf i).toNat)
  case atStart => exact ⟨0, 0, 0, Nat.zero_le _, rfl, rfl, rfl, Nat.zero_le _, Nat.zero_le _, rfl⟩
  case round =>
    obtain ⟨j, c, h, hj, rfl, rfl, rfl, hcs, hhs, HM⟩ := hrel
    by_cases hlt : j < n.toNat
    · have hji : (j : Int) < n := by omega
      by_cases e : (j : Int) = frm
      · have e' : ((j : Int) == frm) = true := by simp [e]
        have HM2 := hide (step_frm HM.out e)
        clear e
        go_wp2
        go_round
        case rel => exact ⟨j + 1, c, h, by omega, by go_num, rfl, rfl, hcs, hhs, HM2⟩
        case measure => simp [intOf]; omega
      have e' : ((j : Int) == frm) = false := by simp [e]
      by_cases e1 : c < sn
      · rcases HST.out with h0 | ⟨b, o, rfl, hrow⟩
        · omega
        have s0 := (hrow c e1).1
        have hbl : b < w.heap.size := World.block_lt_of_cell? w _ s0
        have e1i : (c : Int) < (sn : Int) := by omega
        clear hrow
        by_cases e2 : SA c = j
        · have e2' : (SA c == (j : Int)) = true := by simp [e2]
          have HM2 := hide (step_s HM.out e e1 e2)
          clear e e2
          go_wp2
          go_round
          case rel => exact ⟨j + 1, c + 1, h, by omega, by go_num, by go_num, rfl, by omega, hhs, HM2⟩
          case measure => simp [intOf]; omega
        have e2' : (SA c == (j : Int)) = false := by simp [e2]
        by_cases e3 : h < hn
        · rcases HHD.out with h0 | ⟨b', o', rfl, hrow'⟩
          · omega
          have t0 := (hrow' h e3).1
          have hbl' : b' < w.heap.size := World.block_lt_of_cell? w _ t0
          have e3i : (h : Int) < (hn : Int) := by omega
          clear hrow'
          by_cases e4 : HA h = j
          · have e4' : (HA h == (j : Int)) = true := by simp [e4]
            have HM2 := hide (step_h HM.out e (fun q => e2 q.2) e3 e4)
            clear e e2 e4
            go_wp2
            go_round
            case rel => exact ⟨j + 1, c, h + 1, by omega, by go_num, rfl, by go_num, hcs, by omega, HM2⟩
            case measure => simp [intOf]; omega
          · have e4' : (HA h == (j : Int)) = false := by simp [e4]
            have HF : Hid (r = false) := HR.out.trans (as_none hlt (step_none HM.out e (fun q => e2 q.2) (fun q => e4 q.2)))
            clear e e2 e4
            go_wp2
            go_ret
            exact ⟨ret_bool HF.out.symm, (Below.refl _ _).alloc (Nat.le_refl _) _⟩
        · have HF : Hid (r = false) := HR.out.trans (as_none hlt (step_none HM.out e (fun q => e2 q.2) (fun q => e3 q.1)))
          have e3i : (hn : Int) ≤ (h : Int) := by omega
          clear e e2
          go_wp2
          go_ret
          exact ⟨ret_bool HF.out.symm, (Below.refl _ _).alloc (Nat.le_refl _) _⟩
      · have e1i : (sn : Int) ≤ (c : Int) := by omega
        by_cases e3 : h < hn
        · rcases HHD.out with h0 | ⟨b', o', rfl, hrow'⟩
          · omega
          have t0 := (hrow' h e3).1
          have hbl' : b' < w.heap.size := World.block_lt_of_cell? w _ t0
          have e3i : (h : Int) < (hn : Int) := by omega
          clear hrow'
          by_cases e4 : HA h = j
          · have e4' : (HA h == (j : Int)) = true := by simp [e4]
            have HM2 := hide (step_h HM.out e (fun q => e1 q.1) e3 e4)
            clear e e4
            go_wp2
            go_round
            case rel => exact ⟨j + 1, c, h + 1, by omega, by go_num, rfl, by go_num, hcs, by omega, HM2⟩
            case measure => simp [intOf]; omega
          · have e4' : (HA h == (j : Int)) = false := by simp [e4]
            have HF : Hid (r = false) := HR.out.trans (as_none hlt (step_none HM.out e (fun q => e1 q.1) (fun q => e4 q.2)))
            clear e e4
            go_wp2
            go_ret
            exact ⟨ret_bool HF.out.symm, (Below.refl _ _).alloc (Nat.le_refl _) _⟩
        · have HF : Hid (r = false) := HR.out.trans (as_none hlt (step_none HM.out e (fun q => e1 q.1) (fun q => e3 q.1)))
          have e3i : (hn : Int) ≤ (h : Int) := by omega
          clear e
          go_wp2
          go_ret
          exact ⟨ret_bool HF.out.symm, (Below.refl _ _).alloc (Nat.le_refl _) _⟩
    · have hje : j = n.toNat := by omega
      have HMN : Hid (mrun frm sn hn SA HA n.toNat = some (c, h)) := by rw [← hje]; exact HM
      have hjn : n ≤ (j : Int) := by omega
      by_cases e1 : c < sn
      · have HF : Hid (r = false) := HR.out.trans (as_short HMN.out (.inl e1))
        have e1i : (c : Int) < (sn : Int) := by omega
        clear hje
        go_wp2
        go_ret
        exact ⟨ret_bool HF.out.symm, (Below.refl _ _).alloc (Nat.le_refl _) _⟩
      by_cases e2 : h < hn
      · have HF : Hid (r = false) := HR.out.trans (as_short HMN.out (.inr e2))
        have e1i : (sn : Int) ≤ (c : Int) := by omega
        have e2i : (h : Int) < (hn : Int) := by omega
        clear hje
        go_wp2
        go_ret
        exact ⟨ret_bool HF.out.symm, (Below.refl _ _).alloc (Nat.le_refl _) _⟩
      have hce : c = sn := by omega
      have hhe : h = hn := by omega
      subst hce hhe
      have HF : Hid (r = (allB (asS n id rnd SA SR SP) c && allB (fun i => hm n (wrap64 (rnd - 1)) (HA i) (HS i) (pa i).isNone (pn i) (PA i) (PS i)) h)) := HR.out.trans (as_full HMN.out)
      clear hje HMN HM HR e1 e2
      clear a0 hgl
      go_wp2
      go_loopw [78] (fun i wr => ∃ k : Nat, k ≤ c ∧ i = .int .i64 k ∧ Hid (allB (asS n id rnd SA SR SP) k = true) ∧ Hid (Below (w.heap.size + 1) (w.alloc (.cells #[.int .i64 frm, .int .i64 dst, .int .i64 mr, .int .u64 num, .string val, .int .u64 stamp, .slice none 0 0, .slice sa c sc, .slice ha h hc, .slice none 0 0] 33)) wr)) (fun i _ => c - (intOf i).toNat)
      case atStart => exact ⟨0, Nat.zero_le _, rfl, rfl, Below.refl _ _⟩
      case round =>
        obtain ⟨k, hk, rfl, HK, HB⟩ := hrel
        have hbw : Below w.heap.size w wr := ((Below.refl _ _).alloc (Nat.le_refl _) _).trans (HB.out.mono (by omega))
        have hwl : w.heap.size < wr.heap.size := by have := HB.out.size; simp at this; omega
        by_cases hlt2 : k < c
        · rcases HST.out with h0 | ⟨b, o, rfl, hrow⟩
          · omega
          have hli : (k : Int) < (c : Int) := by omega
          obtain ⟨q0, q1, q2⟩ := hrow k hlt2
          have r0 := keep hbw q0
          have r1 := keep hbw q1
          have r2 := keep hbw q2
          have hbl : b < wr.heap.size := World.block_lt_of_cell? wr _ r0
          have A0 := keep hbw HAG.out.c0
          have A2 := keep hbw HAG.out.c2
          have A13 := keep hbw HAG.out.c13
          have hgl : g < wr.heap.size := World.block_lt_of_cell? wr _ A0
          have HB2 := hide (HB.out.alloc hwl (.cells #[.int .i64 (SA k), .int .i64 (SR k), .int .i64 (SP k)] 75))
          have HW2 := hide (hbw.alloc hbw.size (.cells #[.int .i64 (SA k), .int .i64 (SR k), .int .i64 (SP k)] 75))
          clear hrow q0 q1 q2 hbw
          cases hok : asS n id rnd SA SR SP k with
          | false =>
            have HF2 : Hid (r = false) := HF.out.trans (by rw [allB_false hlt2 hok]; rfl)
            have HOK := hide hok
            clear hok
            by_cases u0 : SA k = id
            · have v0 : (SA k == id) = true := by simp [u0]
              clear u0
              go_wp2
              go_quiet (fail)
              go_wp2
              go_ret
              exact ⟨ret_bool HF2.out.symm, below_drewN HW2.out _⟩
            have v0 : (SA k == id) = false := by simp [u0]
            by_cases u1 : SR k < 1
            · have v1 : decide (SR k < 1) = true := by simp; omega
              go_wp2
              go_quiet (fail)
              go_wp2
              go_ret
              exact ⟨ret_bool HF2.out.symm, below_drewN HW2.out _⟩
            have v1 : decide (SR k < 1) = false := by simp; omega
            by_cases u2 : rnd ≤ SR k
            · have v2 : decide (rnd ≤ SR k) = true := by simp; omega
              go_wp2
              go_quiet (fail)
              go_wp2
              go_ret
              exact ⟨ret_bool HF2.out.symm, below_drewN HW2.out _⟩
            have v2 : decide (rnd ≤ SR k) = false := by simp; omega
            by_cases u3 : SP k < 0
            · have v3 : decide (SP k < 0) = true := by simp; omega
              go_wp2
              go_quiet (fail)
              go_wp2
              go_ret
              exact ⟨ret_bool HF2.out.symm, below_drewN HW2.out _⟩
            have v3 : decide (SP k < 0) = false := by simp; omega
            by_cases u4 : n ≤ SP k
            · have v4 : decide (n ≤ SP k) = true := by simp; omega
              go_wp2
              go_quiet (fail)
              go_wp2
              go_ret
              exact ⟨ret_bool HF2.out.symm, below_drewN HW2.out _⟩
            have v4 : decide (n ≤ SP k) = false := by simp; omega
            by_cases u5 : SP k = SA k
            · have v5 : (SP k == SA k) = true := by simp [u5]
              clear u5
              go_wp2
              go_quiet (fail)
              go_wp2
              go_ret
              exact ⟨ret_bool HF2.out.symm, below_drewN HW2.out _⟩
            have v5 : (SP k == SA k) = false := by simp [u5]
            exact absurd HOK.out (by simp only [asS, decide_eq_false_iff_not]; omega)
          | true =>
            have HI : Hid (allB (asS n id rnd SA SR SP) (k + 1) = true) := by show _ = _; rw [allB_succ, HK.out, hok]; rfl
            simp only [asS, decide_eq_true_eq] at hok
            obtain ⟨u0, u1, u2, u3, u4, u5⟩ := hok
            have v0 : (SA k == id) = false := by simp [u0]
            have v1 : decide (SR k < 1) = false := by simp; omega
            have v2 : decide (rnd ≤ SR k) = false := by simp; omega
            have v3 : decide (SP k < 0) = false := by simp; omega
            have v4 : decide (n ≤ SP k) = false := by simp; omega
            have v5 : (SP k == SA k) = false := by simp [u5]
            clear u0 u5
            go_wp2
            go_quiet (fail)
            go_wp2
            go_roundw
            case rel => exact ⟨k + 1, by omega, by go_num, HI, below_drewN HB2.out _⟩
            case measure => simp [intOf]; omega
        · have hke : k = c := by omega
          subst hke
          have HF3 : Hid (r = allB (fun i => hm n (wrap64 (rnd - 1)) (HA i) (HS i) (pa i).isNone (pn i) (PA i) (PS i)) h) := HF.out.trans (by rw [HK.out]; rfl)
          obtain ⟨w5, h5⟩ : ∃ x, x = wr := ⟨_, rfl⟩
          subst h5
          have z8 : w5.cell? ⟨w.heap.size, 8, none⟩ = some (.slice ha h hc) := by rw [HB.out.cell (p := ⟨w.heap.size, 8, none⟩) (Nat.lt_succ_self _)]; simp
          have HBW := hide hbw
          clear hbw
          go_wp2
          clear z8
          go_loopw [129] (fun i wr => ∃ p : Nat, p ≤ h ∧ i = .int .i64 p ∧ Hid (allB (fun i => hm n (wrap64 (rnd - 1)) (HA i) (HS i) (pa i).isNone (pn i) (PA i) (PS i)) p = true) ∧ Hid (Below w.heap.size w wr)) (fun i _ => h - (intOf i).toNat)
          case atStart => exact ⟨0, Nat.zero_le _, rfl, rfl, HBW⟩
          case round =>
            obtain ⟨p, hp, rfl, HP, HB3⟩ := hrel
            have hb3 := HB3.out
            by_cases hpt : p < h
            · rcases HHD.out with h0 | ⟨b, o, rfl, hrow⟩
              · omega
              have hpi : (p : Int) < (h : Int) := by omega
              obtain ⟨q0, q1, q2, q3⟩ := hrow p hpt
              have r0 := keep hb3 q0
              have r1 := keep hb3 q1
              have r2 := keep hb3 q2
              have r3 := keep hb3 q3
              have hbl : b < wr.heap.size := World.block_lt_of_cell? wr _ r0
              have HW3 := hide (hb3.alloc hb3.size (.cells #[.int .i64 (HA p), .int .u64 (HN p), .int .u64 (HS p), .slice (pa p) (pn p) (pc p)] 42))
              have HCALL := hide (allowedHeard_any g n id rnd (HA p) (HN p) (HS p) (pa p) (pn p) (pc p) (PA p) (PN p) (PS p) (wr.alloc (.cells #[.int .i64 (HA p), .int .u64 (HN p), .int .u64 (HS p), .slice (pa p) (pn p) (pc p)] 42)) (HAG.out.keep HW3.out) ((HPS.out p hpt).keep HW3.out) (HPN.out p hpt) _ rfl)
              clear hrow q0 q1 q2 q3 hb3
              cases hok : hm n (wrap64 (rnd - 1)) (HA p) (HS p) (pa p).isNone (pn p) (PA p) (PS p) with
              | false =>
                have HF4 : Hid (r = false) := HF3.out.trans (allB_false (f := fun i => hm n (wrap64 (rnd - 1)) (HA i) (HS i) (pa i).isNone (pn i) (PA i) (PS i)) hpt hok)
                have HOK := hide hok
                clear hok
                go_wp2_with fail
                refine Calls.mono HCALL.out ?_
                rintro e w' ⟨rfl, hb4⟩
                rw [HOK.out]
                have HB5 := hide (HW3.out.trans (hb4.mono HW3.out.size))
                clear hb4
                go_wp2
                go_ret
                exact ⟨ret_bool HF4.out.symm, HB5.out⟩
              | true =>
                have HI : Hid (allB (fun i => hm n (wrap64 (rnd - 1)) (HA i) (HS i) (pa i).isNone (pn i) (PA i) (PS i)) (p + 1) = true) := by show _ = _; rw [allB_succ, HP.out, hok]; rfl
                have HOK := hide hok
                clear hok
                go_wp2_with fail
                refine Calls.mono HCALL.out ?_
                rintro e w' ⟨rfl, hb4⟩
                rw [HOK.out]
                have HB5 := hide (HW3.out.trans (hb4.mono HW3.out.size))
                clear hb4
                go_wp2
                go_roundw
                case rel => exact ⟨p + 1, by omega, by go_num, HI, HB5⟩
                case measure => simp [intOf]; omega
            · have hpe : p = h := by omega
              subst hpe
              go_wp2
              go_ret
              exact ⟨ret_bool (HF3.out.trans HP.out).symm, hb3⟩

set_option maxRecDepth 100000 in
set_option maxHeartbeats 1000000 in
theorem zzallowed_any (n f id rnd frm dst mr num : Int) (val : ByteArray) (stamp : Int) (sa : Option Addr) (sn sc : Nat) (SA SR SP : Nat → Int) (ha : Option Addr) (hn hc : Nat) (HA HN HS : Nat → Int) (pa : Nat → Option Addr) (pn pc : Nat → Nat) (PA PN PS : Nat → Nat → Int) (w : World)
    (hst : Row3 .i64 .i64 .i64 w sa sn SA SR SP) (hhd : Row4 w ha hn HA HN HS pa pn pc) (hps : ∀ i, i < hn → Row3 .i64 .u64 .u64 w (pa i) (pn i) (PA i) (PN i) (PS i)) (hsn : sn ≤ 1048576) (hhn : hn ≤ 1048576) (hpn : ∀ i, i < hn → pn i ≤ 1048576) (hnn : n ≤ 65536)
    (r : Bool) (hr : r = as' n id frm rnd sn hn SA SR SP HA (fun i => hm n (wrap64 (rnd - 1)) (HA i) (HS i) (pa i).isNone (pn i) (PA i) (PS i))) :
    Calls Try.prog 15 #[.int .i64 n, .int .i64 f, .int .i64 id, .int .i64 rnd, .agg #[.int .i64 frm, .int .i64 dst, .int .i64 mr, .int .u64 num, .string val, .int .u64 stamp, .slice none 0 0, .slice sa sn sc, .slice ha hn hc, .slice none 0 0]] w fun e w' => e = .returned (.bool r) ∧ Below w.heap.size w w' := by
  have HST := hide hst
  have HHD := hide hhd
  have HPS := hide hps
  have HPN := hide hpn
  have HR := hide hr
  clear hst hhd hps hr hpn
  go_enter Try.func15, Try.ntmps15
  go_wp2_with fail
  have hB : ∀ (o1 o2 : Obj), Below w.heap.size w ((w.alloc o1).alloc o2) := fun o1 o2 => ((Below.refl _ _).alloc (Nat.le_refl _) _).alloc (by simp) _
  refine (allowedStatus_any (w.heap.size + 1) n id rnd frm dst mr num val stamp sa sn sc SA SR SP ha hn hc HA HN HS pa pn pc PA PN PS _ ?_ (HST.out.keep (hB _ _)) (HHD.out.keep (hB _ _)) (fun i hi => (HPS.out i hi).keep (hB _ _)) hsn hhn HPN.out hnn r HR.out).mono ?_
  · exact ⟨by simp, by simp, by simp⟩
  rintro e w' ⟨rfl, hb⟩
  have HB := hide ((hB _ _).trans (hb.mono (hB _ _).size))
  clear hb hB
  go_wp2
  go_ret
  exact ⟨rfl, HB.out⟩
end Go.Proofs.Qxb6605338a
