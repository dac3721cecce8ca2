/-
  Seat b6605338a. 'statusModel' (14).
-/
import Derived.Test.Qxb6605338aHeard
namespace Go.Proofs.Qxb6605338a
open Go.RowKit
set_option linter.unusedVariables false

theorem Try.info4 : (Try.prog.info? 4).map (fun i => (i.zero, i.size, i.bytes)) = some (some (.bool false), 1, 1) := by kernel_rfl
theorem make77 (n : Nat) (hn : n ≤ 1048576) (w : World) : (Instr.makeSlice 77 (.int .i64 n) (.int .i64 n)).run Try.prog w = .ok (.slice (some ⟨w.heap.size, 0, none⟩) n n) (w.alloc (.cells (madeCells #[.bool false] n) 4)) := by
  obtain ⟨i0, hi, hz0, hz1, hz2⟩ := info_parts Try.info4
  have h := run_make (P := Try.prog) w 77 4 i0 _ Try.underlying77 hi hz0 .i64 .i64 n n (by omega) (Int.le_refl _) (by rw [hz2]; omega) (by omega)
  simpa [hz1, Value.cells] using h

/-- Is agent a among the first k of the status row? -/
def seenB (SA : Nat → Int) (k a : Nat) : Bool := !(allB (fun j => decide (SA j ≠ a)) k)
theorem seenB_zero (SA : Nat → Int) (a : Nat) : seenB SA 0 a = false := rfl
theorem seenB_succ (SA : Nat → Int) (k a : Nat) : seenB SA (k + 1) a = (seenB SA k a || decide (SA k = a)) := by
  unfold seenB; rw [allB_succ]; by_cases h : SA k = a <;> simp [h]
theorem seenB_iff (SA : Nat → Int) (k a : Nat) : seenB SA k a = false ↔ ∀ j, j < k → SA j ≠ a := by
  unfold seenB
  rw [Bool.not_eq_false', allB_iff]
  simp

/-- The seen marks behind k crashes. -/
def Seen (wr : World) (g N : Nat) (SA : Nat → Int) (k : Nat) : Prop := ∃ f, Own wr g N 4 f ∧ ∀ a, a < N → f a = .bool (seenB SA k a)
theorem Seen.step {wr w' : World} {g N : Nat} {SA : Nat → Int} {k a : Nat} (h : Seen wr g N SA k) (ha : SA k = a) (hs : w'.heap = (wr.setCell ⟨g, a, none⟩ (.bool true)).heap) : Seen w' g N SA (k + 1) := by
  obtain ⟨f, h1, h2⟩ := h
  refine ⟨_, (h1.set a (.bool true)).of_block (by rw [hs]), fun i hi => ?_⟩
  by_cases e : i = a
  · subst e; rw [upd_same, seenB_succ]; simp [ha]
  · rw [upd_ne _ _ e, h2 i hi, seenB_succ]
    have : ¬ SA k = (i : Int) := by rw [ha]; omega
    simp [this]
theorem Seen.drewN {wr : World} {g N : Nat} {SA : Nat → Int} {k : Nat} (h : Seen wr g N SA k) (q : Nat) : Seen (wr.drewN q) g N SA k := by
  obtain ⟨f, h1, h2⟩ := h; exact ⟨f, h1.drewN q, h2⟩
theorem Seen.alloc {wr : World} {g N : Nat} {SA : Nat → Int} {k : Nat} (h : Seen wr g N SA k) (o : Obj) : Seen (wr.alloc o) g N SA k := by
  obtain ⟨f, h1, h2⟩ := h; exact ⟨f, h1.alloc o, h2⟩
theorem Seen.keep {wr w' : World} {g N : Nat} {SA : Nat → Int} {k : Nat} (h : Seen wr g N SA k) (hb : Below wr.heap.size wr w') : Seen w' g N SA k := by
  obtain ⟨f, h1, h2⟩ := h; exact ⟨f, h1.keep hb h1.lt, h2⟩

theorem sm_count {n id frm round : Int} {sn hn : Nat} {SA SR SP HA : Nat → Int} {hmi : Nat → Bool} (h : ¬ (sn : Int) + hn = othersN n frm) : sm n id frm round sn hn SA SR SP HA hmi = false := by simp [sm, h]
theorem sm_zero {n id frm round : Int} {sn hn : Nat} {SA SR SP HA : Nat → Int} {hmi : Nat → Bool} (h : (sn : Int) + hn = othersN n frm) (h0 : othersN n frm = 0) : sm n id frm round sn hn SA SR SP HA hmi = true := by
  have h1 : sn = 0 := by omega
  have h2 : hn = 0 := by omega
  subst h1 h2
  simp [sm, h0, allB]
theorem sm_rest {n id frm round : Int} {sn hn : Nat} {SA SR SP HA : Nat → Int} {hmi : Nat → Bool} (h : (sn : Int) + hn = othersN n frm) : sm n id frm round sn hn SA SR SP HA hmi = (allB (smS n id frm round SA SR SP) sn && allB (smH n frm sn SA HA hmi) hn) := by simp [sm, h]

set_option maxRecDepth 100000 in
set_option maxHeartbeats 1000000 in
theorem status_neg (b o : Nat) (m : Msg) (n id rnd : Int) (w : World) (hn0 : n ≤ 0) (h : IsMsg w b o m) (hsn : m.sn ≤ 1048576) (hhn : m.hn ≤ 1048576) (r : Bool) (hr : r = decide ((m.sn : Int) + m.hn = 0)) :
    Calls Try.prog 14 #[.int .i64 n, .int .i64 id, .int .i64 rnd, .pointer (some ⟨b, o, none⟩)] w fun e w' => e = .returned (.bool r) ∧ Below w.heap.size w w' := by
  obtain ⟨c0, c1, c2, c3, c4, c5, c6, c7, rows, vl, sh, hh, ph⟩ := h
  have HR := hide hr
  clear hr c1 c2 c3 c4 c5
  by_cases e : (m.sn : Int) + m.hn = 0
  · have HF : Hid (r = true) := by show _ = _; rw [HR.out]; simp [e]
    have e1 : m.sn = 0 := by omega
    have e2 : m.hn = 0 := by omega
    rw [e1] at c6
    rw [e2] at c7
    clear e e1 e2
    go_enter Try.func14, Try.ntmps14
    go_wp2
    go_quiet (fail)
    go_wp2
    go_ret
    exact ⟨ret_bool HF.out.symm, below_drewN (Below.refl _ _) _⟩
  · have HF : Hid (r = false) := by show _ = _; rw [HR.out]; simp [e]
    have e' : ((m.sn : Int) + m.hn == 0) = false := by simp [e]
    clear e
    go_enter Try.func14, Try.ntmps14
    go_wp2
    go_quiet (fail)
    go_wp2
    go_ret
    exact ⟨ret_bool HF.out.symm, below_drewN (Below.refl _ _) _⟩

set_option maxRecDepth 100000 in
set_option maxHeartbeats 4000000 in
theorem status_pos (b o N : Nat) (m : Msg) (id rnd : Int) (w : World) (hN0 : 1 ≤ N) (hN : N ≤ 65536) (h : IsMsg w b o m) (hsn : m.sn ≤ 1048576) (hhn : m.hn ≤ 1048576) (hpn : ∀ i, i < m.hn → m.pn i ≤ 1048576)
    (r : Bool) (hr : r = sm N id m.frm rnd m.sn m.hn m.SA m.SR m.SP m.HA (fun i => hm N (wrap64 (rnd - 1)) (m.HA i) (m.HS i) (m.pa i).isNone (m.pn i) (m.PA i) (m.PS i))) :
    Calls Try.prog 14 #[.int .i64 N, .int .i64 id, .int .i64 rnd, .pointer (some ⟨b, o, none⟩)] w fun e w' => e = .returned (.bool r) ∧ Below w.heap.size w w' := by
  obtain ⟨c0, c1, c2, c3, c4, c5, c6, c7, rows, vl, sh, hh, ph⟩ := h
  obtain ⟨st, hd, ps⟩ := rows
  have HR := hide hr
  have HPN := hide hpn
  clear hr hpn c1 c2 c3 c4 c5 vl sh hh ph
  obtain ⟨frm, dst, mr, num, val, stamp, sa, sn, sc, SA, SR, SP, ha, hn, hc, HA, HN, HS, pa, pn, pc, PA, PN, PS⟩ := m
  dsimp only at *
  have HST := hide st
  have HHD := hide hd
  have HPS := hide ps
  clear st hd ps
  obtain ⟨O, HO⟩ : ∃ O, Hid (O = othersN N frm) := ⟨_, rfl⟩
  have hO0 : 0 ≤ O ∧ O ≤ 65536 := by rw [HO.out]; unfold othersN; split <;> (try split) <;> omega
  obtain ⟨hOa, hOb⟩ := hO0
  have HOV : Hid (O = if 0 ≤ frm ∧ frm < (N : Int) then (N : Int) - 1 else N) := by show _ = _; rw [HO.out]; unfold othersN; rw [if_neg (by omega)]
  go_enter Try.func14, Try.ntmps14
  go_upto_if 16 with (fail)
  go_cut [9] (fun s wc => s = .int .i64 O ∧ wc = w)
  case first =>
    by_cases g1 : 0 ≤ frm
    · by_cases g2 : frm < (N : Int)
      · have HV : Hid ((N : Int) - 1 = O) := by show _ = _; rw [HOV.out, if_pos ⟨g1, g2⟩]
        go_wp2
        go_meet
        case rel => exact ⟨by rw [HV.out], rfl⟩
      · have HV : Hid ((N : Int) = O) := by show _ = _; rw [HOV.out, if_neg (by omega)]
        go_wp2
        go_meet
        case rel => exact ⟨by rw [HV.out], rfl⟩
    · have HV : Hid ((N : Int) = O) := by show _ = _; rw [HOV.out, if_neg (by omega)]
      go_wp2
      go_meet
      case rel => exact ⟨by rw [HV.out], rfl⟩
  case rest =>
    obtain ⟨rfl, rfl⟩ := hcut
    by_cases e1 : (sn : Int) + hn = O
    · have HE := hide e1
      have e1' : ((sn : Int) + hn == O) = true := by simp [e1]
      have e1'' : ((sn : Int) + hn != O) = false := by simp [e1]
      clear e1
      by_cases e2 : O = 0
      · have HF : Hid (r = true) := HR.out.trans (sm_zero (by rw [HE.out, HO.out]) (by rw [← HO.out, e2]))
        have e2' : (O == 0) = true := by simp [e2]
        clear e2
        go_wp2
        go_quiet (fail)
        go_wp2
        go_ret
        exact ⟨ret_bool HF.out.symm, below_drewN (Below.refl _ _) _⟩
      have e2' : (O == 0) = false := by simp [e2]
      have HF : Hid (r = (allB (smS N id frm rnd SA SR SP) sn && allB (smH N frm sn SA HA (fun i => hm N (wrap64 (rnd - 1)) (HA i) (HS i) (pa i).isNone (pn i) (PA i) (PS i))) hn)) := HR.out.trans (sm_rest (by rw [HE.out, HO.out]))
      have hmk := make77 N (by omega)
      clear e2
      go_wp2
      go_quiet (fail)
      go_wp2
      go_loopw [11] (fun i wr => ∃ k : Nat, k ≤ sn ∧ i = .int .i64 k ∧ Hid (allB (smS N id frm rnd SA SR SP) k = true) ∧ Hid (Seen wr wc.heap.size N SA k) ∧ Hid (Below wc.heap.size wc wr)) (fun i _ => sn - (intOf i).toNat)
      case atStart =>
        refine ⟨0, Nat.zero_le _, rfl, rfl, ⟨_, Own.new (wc.drewN _) (madeCells #[.bool false] N) 4 |> fun h => by rw [size_madeCells] at h; exact h, fun a ha => ?_⟩, (below_drewN (Below.refl _ _) _).alloc (Nat.le_refl _) _⟩
        simp [madeCells, ha, seenB_zero, Nat.mod_one]
      case round =>
        obtain ⟨k, hk, rfl, HK, HSE, HB⟩ := hrel
        have hbw := HB.out
        have d0 := keep hbw c0
        have d6 := keep hbw c6
        have hbl : b < wr.heap.size := World.block_lt_of_cell? wr _ d0
        by_cases hlt : k < sn
        · rcases HST.out with h0 | ⟨sb, so, rfl, hrow⟩
          · omega
          have hli : (k : Int) < (sn : Int) := by omega
          obtain ⟨q0, q1, q2⟩ := hrow k hlt
          have r0 := keep hbw q0
          have r1 := keep hbw q1
          have r2 := keep hbw q2
          have hsl : sb < wr.heap.size := World.block_lt_of_cell? wr _ r0
          have HROW := hide hrow
          have HW2 := hide (hbw.alloc hbw.size (.cells #[.int .i64 (SA k), .int .i64 (SR k), .int .i64 (SP k)] 74))
          clear hrow q0 q1 q2 hmk
          cases hok : smS N id frm rnd SA SR SP k with
          | false =>
            have HF2 : Hid (r = false) := HF.out.trans (by rw [allB_false hlt hok]; rfl)
            have HOK := hide hok
            clear hok
            by_cases u0 : SA k < 0
            · have v0 : decide (SA k < 0) = true := by simp; omega
              go_wp2
              go_quiet (fail)
              go_wp2
              go_ret
              exact ⟨ret_bool HF2.out.symm, by first | exact below_drewN HW2.out _ | exact below_drewN (below_drewN HW2.out _) _⟩
            have v0 : decide (SA k < 0) = false := by simp; omega
            by_cases u1 : (N : Int) ≤ SA k
            · have v1 : decide ((N : Int) ≤ SA k) = true := by simp; omega
              go_wp2
              go_quiet (fail)
              go_wp2
              go_ret
              exact ⟨ret_bool HF2.out.symm, by first | exact below_drewN HW2.out _ | exact below_drewN (below_drewN HW2.out _) _⟩
            have v1 : decide ((N : Int) ≤ SA k) = false := by simp; omega
            by_cases u2 : SA k = frm
            · have v2 : (SA k == frm) = true := by simp [u2]
              clear u2
              go_wp2
              go_quiet (fail)
              go_wp2
              go_ret
              exact ⟨ret_bool HF2.out.symm, by first | exact below_drewN HW2.out _ | exact below_drewN (below_drewN HW2.out _) _⟩
            have v2 : (SA k == frm) = false := by simp [u2]
            have haN : (SA k).toNat < N := by omega
            obtain ⟨f, hown, hf⟩ := HSE.out
            have hown2 := hown.alloc (.cells #[.int .i64 (SA k), .int .i64 (SR k), .int .i64 (SP k)] 74)
            have x0 := hown2.cell haN
            have f0 := hown2.frozen (SA k).toNat
            have hgl : wc.heap.size < wr.heap.size := hown.lt
            by_cases hk0 : k = 0
            · have HSIX : Hid (SA k = id ∨ SR k < 1 ∨ rnd ≤ SR k ∨ SP k < 0 ∨ (N : Int) ≤ SP k ∨ SP k = SA k) := by
                have := HOK.out; simp only [smS, decide_eq_false_iff_not] at this; show _ ∨ _; omega
              clear u2 hown hown2 hf
              subst hk0
              simp only [Nat.zero_mul, Nat.add_zero] at r0 r1 r2
              by_cases u4 : SA 0 = id
              · have v4 : (SA 0 == id) = true := by simp [u4]
                clear u4
                go_wp2
                go_quiet (fail)
                go_wp2
                go_quiet (fail)
                go_wp2
                go_ret
                exact ⟨ret_bool HF2.out.symm, (below_drewN HW2.out _).setCell (Nat.le_refl _) _⟩
              have v4 : (SA 0 == id) = false := by simp [u4]
              go_wp2
              go_quiet (fail)
              go_wp2
              go_quiet (fail)
              go_wp2
              all_goals first | (go_ret; exact ⟨ret_bool HF2.out.symm, (below_drewN HW2.out _).setCell (Nat.le_refl _) _⟩) | (exfalso; have hx := HSIX.out; omega) | (exfalso; rename_i hq; have hx := HSIX.out; simp at hq; omega) | (exfalso; rename_i hp hq; have hx := HSIX.out; simp at hp; omega)
            · obtain ⟨k', rfl⟩ : ∃ k', k = k' + 1 := ⟨k - 1, by omega⟩
              have s0 := keep hbw (HROW.out k' (by omega)).1
              by_cases u3 : SA (k' + 1) ≤ SA k'
              · have v3 : decide (SA (k' + 1) ≤ SA k') = true := by simp; omega
                clear u2 hown hown2 hf
                go_wp2
                go_quiet (fail)
                go_wp2
                go_quiet (fail)
                go_wp2
                go_ret
                exact ⟨ret_bool HF2.out.symm, by first | exact below_drewN HW2.out _ | exact below_drewN (below_drewN HW2.out _) _⟩
              · have v3 : decide (SA (k' + 1) ≤ SA k') = false := by simp; omega
                have HSIX : Hid (SA (k' + 1) = id ∨ SR (k' + 1) < 1 ∨ rnd ≤ SR (k' + 1) ∨ SP (k' + 1) < 0 ∨ (N : Int) ≤ SP (k' + 1) ∨ SP (k' + 1) = SA (k' + 1)) := by
                  have := HOK.out; simp only [smS, decide_eq_false_iff_not, Nat.add_sub_cancel] at this; show _ ∨ _; omega
                clear u2 hown hown2 hf
                by_cases u4 : SA (k' + 1) = id
                · have v4 : (SA (k' + 1) == id) = true := by simp [u4]
                  clear u4
                  go_wp2
                  go_quiet (fail)
                  go_wp2
                  go_quiet (fail)
                  go_wp2
                  go_ret
                  exact ⟨ret_bool HF2.out.symm, (below_drewN HW2.out _).setCell (Nat.le_refl _) _⟩
                have v4 : (SA (k' + 1) == id) = false := by simp [u4]
                go_wp2
                go_quiet (fail)
                go_wp2
                go_quiet (fail)
                go_wp2
                all_goals first | (go_ret; exact ⟨ret_bool HF2.out.symm, (below_drewN HW2.out _).setCell (Nat.le_refl _) _⟩) | (exfalso; have hx := HSIX.out; omega) | (exfalso; rename_i hq; have hx := HSIX.out; simp at hq; omega) | (exfalso; rename_i hp hq; have hx := HSIX.out; simp at hp; omega)
          | true =>
            have HI : Hid (allB (smS N id frm rnd SA SR SP) (k + 1) = true) := by show _ = _; rw [allB_succ, HK.out, hok]; rfl
            simp only [smS, decide_eq_true_eq] at hok
            obtain ⟨u0, u1, u2, u3, u4, u5, u6, u7, u8, u9⟩ := hok
            have v0 : decide (SA k < 0) = false := by simp; omega
            have v1 : decide ((N : Int) ≤ SA k) = false := by simp; omega
            have v2 : (SA k == frm) = false := by simp [u2]
            have v4 : (SA k == id) = false := by simp [u4]
            have v9 : (SP k == SA k) = false := by simp [u9]
            have haN : (SA k).toNat < N := by omega
            obtain ⟨f, hown, hf⟩ := HSE.out
            have hown2 := hown.alloc (.cells #[.int .i64 (SA k), .int .i64 (SR k), .int .i64 (SP k)] 74)
            have x0 := hown2.cell haN
            have f0 := hown2.frozen (SA k).toNat
            have hgl : wc.heap.size < wr.heap.size := hown.lt
            have ha : SA k = ((SA k).toNat : Int) := by omega
            have HAE := hide ha
            clear ha u2 u4 u9 hown hown2 hf
            by_cases hk0 : k = 0
            · subst hk0
              simp only [Nat.zero_mul, Nat.add_zero] at r0 r1 r2
              go_wp2
              go_quiet (fail)
              go_wp2
              go_quiet (fail)
              go_wp2
              go_roundw
              case rel => exact ⟨1, by omega, by go_num, HI, ((HSE.out.alloc _).drewN _).step HAE.out rfl, (below_drewN HW2.out _).setCell (Nat.le_refl _) _⟩
              case measure => simp [intOf]; omega
            · obtain ⟨k', rfl⟩ : ∃ k', k = k' + 1 := ⟨k - 1, by omega⟩
              have s0 := keep hbw (HROW.out k' (by omega)).1
              have u3' : SA k' < SA (k' + 1) := by simp at u3; exact u3
              have v3 : decide (SA (k' + 1) ≤ SA k') = false := by simp; omega
              clear u3
              go_wp2
              go_quiet (fail)
              go_wp2
              go_quiet (fail)
              go_wp2
              go_roundw
              case rel => exact ⟨k' + 1 + 1, by omega, by go_num, HI, ((HSE.out.alloc _).drewN _).step HAE.out rfl, (below_drewN HW2.out _).setCell (Nat.le_refl _) _⟩
              case measure => simp [intOf]; omega
        · have hke : k = sn := by omega
          subst hke
          have HF3 : Hid (r = allB (smH N frm k SA HA (fun i => hm N (wrap64 (rnd - 1)) (HA i) (HS i) (pa i).isNone (pn i) (PA i) (PS i))) hn) := HF.out.trans (by rw [HK.out]; rfl)
          obtain ⟨w5, h5⟩ : ∃ x, x = wr := ⟨_, rfl⟩
          subst h5
          clear hmk hbw
          go_wp2
          clear d0 d6 hbl
          go_loopw [13] (fun i wr => ∃ p : Nat, p ≤ hn ∧ i = .int .i64 p ∧ Hid (allB (smH N frm k SA HA (fun i => hm N (wrap64 (rnd - 1)) (HA i) (HS i) (pa i).isNone (pn i) (PA i) (PS i))) p = true) ∧ Hid (Seen wr wc.heap.size N SA k) ∧ Hid (Below wc.heap.size wc wr)) (fun i _ => hn - (intOf i).toNat)
          case atStart => exact ⟨0, Nat.zero_le _, rfl, rfl, HSE, HB⟩
          case round =>
            obtain ⟨p, hp, rfl, HP, HSE2, HB2⟩ := hrel
            have hbw := HB2.out
            have d0 := keep hbw c0
            have d7 := keep hbw c7
            have hbl : b < wr.heap.size := World.block_lt_of_cell? wr _ d0
            by_cases hpt : p < hn
            · rcases HHD.out with h0 | ⟨sb, so, rfl, hrow⟩
              · omega
              have hpi : (p : Int) < (hn : Int) := by omega
              obtain ⟨q0, q1, q2, q3⟩ := hrow p hpt
              have r0 := keep hbw q0
              have r1 := keep hbw q1
              have r2 := keep hbw q2
              have r3 := keep hbw q3
              have hsl : sb < wr.heap.size := World.block_lt_of_cell? wr _ r0
              have HROW := hide hrow
              have HW2 := hide (hbw.alloc hbw.size (.cells #[.int .i64 (HA p), .int .u64 (HN p), .int .u64 (HS p), .slice (pa p) (pn p) (pc p)] 72))
              clear hrow q0 q1 q2 q3
              obtain ⟨f, hown, hf⟩ := HSE2.out
              have hgl : wc.heap.size < wr.heap.size := hown.lt
              cases hok : smH N frm k SA HA (fun i => hm N (wrap64 (rnd - 1)) (HA i) (HS i) (pa i).isNone (pn i) (PA i) (PS i)) p with
              | false =>
                have HF4 : Hid (r = false) := HF3.out.trans (allB_false hpt hok)
                have HOK := hide hok
                clear hok
                by_cases u0 : HA p < 0
                · have v0 : decide (HA p < 0) = true := by simp; omega
                  go_wp2
                  go_quiet (fail)
                  go_wp2
                  go_ret
                  exact ⟨ret_bool HF4.out.symm, by first | exact below_drewN HW2.out _ | exact below_drewN (below_drewN HW2.out _) _⟩
                have v0 : decide (HA p < 0) = false := by simp; omega
                by_cases u1 : (N : Int) ≤ HA p
                · have v1 : decide ((N : Int) ≤ HA p) = true := by simp; omega
                  go_wp2
                  go_quiet (fail)
                  go_wp2
                  go_ret
                  exact ⟨ret_bool HF4.out.symm, by first | exact below_drewN HW2.out _ | exact below_drewN (below_drewN HW2.out _) _⟩
                have v1 : decide ((N : Int) ≤ HA p) = false := by simp; omega
                by_cases u2 : HA p = frm
                · have v2 : (HA p == frm) = true := by simp [u2]
                  clear u2
                  go_wp2
                  go_quiet (fail)
                  go_wp2
                  go_ret
                  exact ⟨ret_bool HF4.out.symm, by first | exact below_drewN HW2.out _ | exact below_drewN (below_drewN HW2.out _) _⟩
                have v2 : (HA p == frm) = false := by simp [u2]
                have haN : (HA p).toNat < N := by omega
                have hae : HA p = ((HA p).toNat : Int) := by omega
                have x0 := hown.cell haN
                rw [hf _ haN] at x0
                cases hsb : seenB SA k (HA p).toNat with
                | true =>
                  rw [hsb] at x0
                  clear hown hf u2 hae hsb
                  go_wp2
                  go_quiet (fail)
                  go_wp2
                  go_ret
                  exact ⟨ret_bool HF4.out.symm, by first | exact below_drewN HW2.out _ | exact below_drewN (below_drewN HW2.out _) _⟩
                | false =>
                  rw [hsb] at x0
                  have hns := (seenB_iff SA k (HA p).toNat).1 hsb
                  rw [← hae] at hns
                  have HNS := hide hns
                  clear hown hf hae hsb hns
                  by_cases hp0 : p = 0
                  · have HHM : Hid (hm N (wrap64 (rnd - 1)) (HA p) (HS p) (pa p).isNone (pn p) (PA p) (PS p) = false) := by
                      have := HOK.out
                      simp only [smH, Bool.and_eq_false_iff, decide_eq_false_iff_not] at this
                      rcases this with h | h
                      · exact absurd ⟨by omega, by omega, u2, HNS.out, .inl hp0⟩ h
                      · exact h
                    clear u2
                    subst hp0
                    simp only [Nat.zero_mul, Nat.add_zero] at r0 r1 r2 r3
                    go_wp2
                    go_quiet (fail)
                    go_wp2
                    go_quiet (fail)
                    go_wp2_with fail
                    refine (heardModel_any N rnd (HA 0) (HN 0) (HS 0) (pa 0) (pn 0) (pc 0) (PA 0) (PN 0) (PS 0) _ ((HPS.out 0 hpt).keep (below_drewN HW2.out _)) (HPN.out 0 hpt) _ rfl).mono ?_
                    rintro e w' ⟨rfl, hb4⟩
                    rw [HHM.out]
                    have HB5 := hide ((below_drewN HW2.out _).trans (hb4.mono (by simpa using HW2.out.size)))
                    clear hb4
                    go_wp2
                    go_ret
                    exact ⟨ret_bool HF4.out.symm, HB5.out⟩
                  · obtain ⟨p', rfl⟩ : ∃ p', p = p' + 1 := ⟨p - 1, by omega⟩
                    have s0 := keep hbw (HROW.out p' (by omega)).1
                    by_cases u3 : HA (p' + 1) ≤ HA p'
                    · have v3 : decide (HA (p' + 1) ≤ HA p') = true := by simp; omega
                      clear u2
                      go_wp2
                      go_quiet (fail)
                      go_wp2
                      go_quiet (fail)
                      go_wp2
                      go_ret
                      exact ⟨ret_bool HF4.out.symm, by first | exact below_drewN HW2.out _ | exact below_drewN (below_drewN HW2.out _) _⟩
                    · have v3 : decide (HA (p' + 1) ≤ HA p') = false := by simp; omega
                      have HHM : Hid (hm N (wrap64 (rnd - 1)) (HA (p' + 1)) (HS (p' + 1)) (pa (p' + 1)).isNone (pn (p' + 1)) (PA (p' + 1)) (PS (p' + 1)) = false) := by
                        have := HOK.out
                        simp only [smH, Bool.and_eq_false_iff, decide_eq_false_iff_not, Nat.add_sub_cancel] at this
                        rcases this with h | h
                        · exact absurd ⟨by omega, by omega, u2, HNS.out, .inr (by omega)⟩ h
                        · exact h
                      clear u2
                      go_wp2
                      go_quiet (fail)
                      go_wp2
                      go_quiet (fail)
                      go_wp2_with fail
                      refine (heardModel_any N rnd (HA (p' + 1)) (HN (p' + 1)) (HS (p' + 1)) (pa (p' + 1)) (pn (p' + 1)) (pc (p' + 1)) (PA (p' + 1)) (PN (p' + 1)) (PS (p' + 1)) _ ((HPS.out (p' + 1) hpt).keep (below_drewN HW2.out _)) (HPN.out (p' + 1) hpt) _ rfl).mono ?_
                      rintro e w' ⟨rfl, hb4⟩
                      rw [HHM.out]
                      have HB5 := hide ((below_drewN HW2.out _).trans (hb4.mono (by simpa using HW2.out.size)))
                      clear hb4
                      go_wp2
                      go_ret
                      exact ⟨ret_bool HF4.out.symm, HB5.out⟩
              | true =>
                have HI : Hid (allB (smH N frm k SA HA (fun i => hm N (wrap64 (rnd - 1)) (HA i) (HS i) (pa i).isNone (pn i) (PA i) (PS i))) (p + 1) = true) := by show _ = _; rw [allB_succ, HP.out, hok]; rfl
                simp only [smH, Bool.and_eq_true, decide_eq_true_eq] at hok
                obtain ⟨⟨u0, u1, u2, u4, u3⟩, u5⟩ := hok
                have HHM := hide u5
                have v0 : decide (HA p < 0) = false := by simp; omega
                have v1 : decide ((N : Int) ≤ HA p) = false := by simp; omega
                have v2 : (HA p == frm) = false := by simp [u2]
                have haN : (HA p).toNat < N := by omega
                have hae : HA p = ((HA p).toNat : Int) := by omega
                have x0 := hown.cell haN
                rw [hf _ haN, (seenB_iff SA k (HA p).toNat).2 (by rw [← hae]; exact u4)] at x0
                clear u2 u4 u5 hae hown hf
                by_cases hp0 : p = 0
                · subst hp0
                  simp only [Nat.zero_mul, Nat.add_zero] at r0 r1 r2 r3
                  go_wp2
                  go_quiet (fail)
                  go_wp2
                  go_quiet (fail)
                  go_wp2_with fail
                  refine (heardModel_any N rnd (HA 0) (HN 0) (HS 0) (pa 0) (pn 0) (pc 0) (PA 0) (PN 0) (PS 0) _ ((HPS.out 0 hpt).keep (below_drewN HW2.out _)) (HPN.out 0 hpt) _ rfl).mono ?_
                  rintro e w' ⟨rfl, hb4⟩
                  rw [HHM.out]
                  have HB5 := hide ((below_drewN HW2.out _).trans (hb4.mono (by simpa using HW2.out.size)))
                  have HSE5 := hide (((HSE2.out.alloc _).drewN _).keep hb4)
                  clear hb4
                  go_wp2
                  go_roundw
                  case rel => exact ⟨1, by omega, by go_num, HI, HSE5, HB5⟩
                  case measure => simp [intOf]; omega
                · obtain ⟨p', rfl⟩ : ∃ p', p = p' + 1 := ⟨p - 1, by omega⟩
                  have s0 := keep hbw (HROW.out p' (by omega)).1
                  have u3' : HA p' < HA (p' + 1) := by simp at u3; exact u3
                  have v3 : decide (HA (p' + 1) ≤ HA p') = false := by simp; omega
                  clear u3
                  go_wp2
                  go_quiet (fail)
                  go_wp2
                  go_quiet (fail)
                  go_wp2_with fail
                  refine (heardModel_any N rnd (HA (p' + 1)) (HN (p' + 1)) (HS (p' + 1)) (pa (p' + 1)) (pn (p' + 1)) (pc (p' + 1)) (PA (p' + 1)) (PN (p' + 1)) (PS (p' + 1)) _ ((HPS.out (p' + 1) hpt).keep (below_drewN HW2.out _)) (HPN.out (p' + 1) hpt) _ rfl).mono ?_
                  rintro e w' ⟨rfl, hb4⟩
                  rw [HHM.out]
                  have HB5 := hide ((below_drewN HW2.out _).trans (hb4.mono (by simpa using HW2.out.size)))
                  have HSE5 := hide (((HSE2.out.alloc _).drewN _).keep hb4)
                  clear hb4
                  go_wp2
                  go_roundw
                  case rel => exact ⟨p' + 1 + 1, by omega, by go_num, HI, HSE5, HB5⟩
                  case measure => simp [intOf]; omega
            · have hpe : p = hn := by omega
              subst hpe
              go_wp2
              go_ret
              exact ⟨ret_bool (HF3.out.trans HP.out).symm, hbw⟩
    · have HF : Hid (r = false) := HR.out.trans (sm_count (by rw [← HO.out]; exact e1))
      have e1' : ((sn : Int) + hn == O) = false := by simp [e1]
      clear e1
      go_wp2
      go_quiet (fail)
      go_wp2
      go_ret
      exact ⟨ret_bool HF.out.symm, below_drewN (Below.refl _ _) _⟩

/-- statusModel, at every n up to 65536. -/
theorem status_any (b o : Nat) (m : Msg) (n id rnd : Int) (w : World) (hnn : n ≤ 65536) (h : IsMsg w b o m) (hsn : m.sn ≤ 1048576) (hhn : m.hn ≤ 1048576) (hpn : ∀ i, i < m.hn → m.pn i ≤ 1048576)
    (r : Bool) (hr : r = sm n id m.frm rnd m.sn m.hn m.SA m.SR m.SP m.HA (fun i => hm n (wrap64 (rnd - 1)) (m.HA i) (m.HS i) (m.pa i).isNone (m.pn i) (m.PA i) (m.PS i))) :
    Calls Try.prog 14 #[.int .i64 n, .int .i64 id, .int .i64 rnd, .pointer (some ⟨b, o, none⟩)] w fun e w' => e = .returned (.bool r) ∧ Below w.heap.size w w' := by
  by_cases h0 : n ≤ 0
  · refine status_neg b o m n id rnd w h0 h hsn hhn r ?_
    have ho : othersN n m.frm = 0 := by unfold othersN; rw [if_pos h0]
    rw [hr]
    by_cases e : (m.sn : Int) + m.hn = 0
    · rw [sm_zero (by rw [ho]; exact e) ho, decide_eq_true e]
    · rw [sm_count (by rw [ho]; exact e), decide_eq_false e]
  · obtain ⟨N, rfl⟩ : ∃ N : Nat, n = N := ⟨n.toNat, by omega⟩
    exact status_pos b o N m id rnd w (by omega) (by omega) h hsn hhn hpn r hr
end Go.Proofs.Qxb6605338a
