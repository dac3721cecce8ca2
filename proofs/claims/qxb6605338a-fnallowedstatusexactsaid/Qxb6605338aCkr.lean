/-
  Seat b6605338a. 'checkReceipts' (11): over a result that is as it must be it answers true.
-/
import Derived.Test.Qxb6605338aReceipts
namespace Go.Proofs.Qxb6605338a
open Go.RowKit
set_option linter.unusedVariables false

theorem hide {p : Prop} (h : p) : Hid p := h

/-- Every place below the number of messages that came is one message's. -/
theorem live_at (pt : Nat → Option (Nat × Nat)) (n p : Nat) (h : p < liveN pt n) : ∃ j x, j < n ∧ pt j = some x ∧ liveN pt j = p := by
  induction n with
  | zero => simp [liveN, sumN] at h
  | succ n ih =>
    cases hp : pt n with
    | none =>
      rw [liveN_none hp] at h
      obtain ⟨j, x, h1, h2, h3⟩ := ih h
      exact ⟨j, x, by omega, h2, h3⟩
    | some x =>
      rw [liveN_some hp] at h
      by_cases e : p = liveN pt n
      · exact ⟨n, x, by omega, hp, e.symm⟩
      · obtain ⟨j, x, h1, h2, h3⟩ := ih (by omega)
        exact ⟨j, x, by omega, h2, h3⟩
theorem live_lt (pt : Nat → Option (Nat × Nat)) {i j : Nat} (h : liveN pt i < liveN pt j) : i < j := by
  rcases Nat.lt_or_ge i j with h' | h'
  · exact h'
  · have := liveN_le pt h'; omega

theorem neq40 (w : World) (a : Option Addr) (n c n' c' : Nat) : (binOp .neq 40 (.slice a n c) (.slice none n' c')).run Try.prog w = .ok (.bool (!a.isNone)) w := run_neq_slice_nil_any w _ _ a n c n' c' Try.underlying40

set_option maxRecDepth 100000 in
set_option maxHeartbeats 1000000 in
theorem check_any (a : Option Addr) (n c : Nat) (pt : Nat → Option (Nat × Nat)) (ms : Nat → Msg) (w : World) (h : IsFrom w a n pt ms) (hn : n ≤ 1048576) (gH gA L T : Nat) (fH fA : Nat → Value) (hL : L = liveN pt n)
    (hT : T = sumN (hl pt ms) n) (hTn : T ≤ 1048576) (oH : Own w gH (L * 4) 42 fH) (kH : HeadsOK fH gA pt ms n) (oA : Own w gA (T * 3) 39 fA) (kA : RecsOK fA pt ms n) :
    Calls Try.prog 11 #[.slice a n c, .slice (some ⟨gH, 0, none⟩) L L] w fun e w' => e = .returned (.bool true) ∧ Below w.heap.size w w' := by
  have H := hide (h)
  have HL := hide (hL)
  have HT := hide (hT)
  have OH := hide (oH)
  have KH := hide (kH)
  have OA := hide (oA)
  have KA := hide (kA)
  clear h hL hT oH kH oA kA
  have hLn : L ≤ 1048576 := by rw [HL.out]; have := liveN_n pt n; omega
  go_enter Try.func11, Try.ntmps11
  go_wp2
  go_loop [5, 6] (fun s i => ∃ k A : Nat, k ≤ n ∧ i = .int .i64 k ∧ s = .int .i64 A ∧ A ≤ 1048576 ∧ Hid (A = liveN pt k)) (fun _ i => n - (intOf i).toNat)
  case atStart => exact ⟨0, 0, Nat.zero_le _, rfl, rfl, by omega, rfl⟩
  case round =>
    obtain ⟨k, A, hk, rfl, rfl, hA, HAB⟩ := hrel
    by_cases hlt : k < n
    · rcases H.out with h0 | ⟨b, o, rfl, hc⟩
      · omega
      have hli : (k : Int) < (n : Int) := by omega
      obtain ⟨g1, g2⟩ := hc k hlt
      clear hc g2
      cases hp : pt k with
      | none =>
        rw [hp] at g1
        have HS : Hid (A = liveN pt (k + 1)) := by rw [liveN_none hp]; exact HAB
        clear hp
        have g1' : w.cell? ⟨b, o + k, none⟩ = some (.pointer none) := g1
        clear g1
        go_wp2
        go_round
        case rel => exact ⟨k + 1, A, by omega, by go_num, rfl, hA, HS⟩
        case measure => simp [intOf]; omega
      | some x =>
        obtain ⟨mb, mo⟩ := x
        rw [hp] at g1
        have HS : Hid (A + 1 = liveN pt (k + 1)) := by rw [liveN_some hp, HAB.out]; rfl
        have hA1 : A + 1 ≤ 1048576 := by rw [HS.out]; have := liveN_le pt (show k + 1 ≤ n from hlt); rw [← HL.out] at this; omega
        clear hp
        have g1' : w.cell? ⟨b, o + k, none⟩ = some (.pointer (some ⟨mb, mo, none⟩)) := g1
        clear g1
        go_wp2
        go_round
        case rel => exact ⟨k + 1, A + 1, by omega, by go_num, by go_num, hA1, HS⟩
        case measure => simp [intOf]; omega
    · have hke : k = n := by omega
      have hAL : A = L := by rw [HL.out, HAB.out, hke]
      subst hAL
      clear HAB
      go_wp2
      go_loopw [7] (fun i wr => ∃ p : Nat, p ≤ A ∧ i = .int .i64 p ∧ Hid (Below w.heap.size w wr)) (fun i _ => A - (intOf i).toNat)
      case atStart => exact ⟨0, Nat.zero_le _, rfl, Below.refl _ _⟩
      case round =>
        obtain ⟨p, hp, rfl, HB⟩ := hrel
        by_cases hpt : p < A
        · obtain ⟨j, ⟨mb, mo⟩, hj, hjs, hjl⟩ := live_at pt n p (by rw [← HL.out]; exact hpt)
          rcases H.out with h0 | ⟨b, o, rfl, hc⟩
          · omega
          obtain ⟨g1, g2⟩ := hc j hj
          have hm := g2 _ hjs
          rw [hjs] at g1
          obtain ⟨w5, h5⟩ : ∃ x, x = wr := ⟨_, rfl⟩
          subst h5
          have hbe := HB.out
          have g1' : w5.cell? ⟨b, o + j, none⟩ = some (.pointer (some ⟨mb, mo, none⟩)) := keep hbe g1
          clear hc g1 g2
          obtain ⟨a0, a1, a2, a3⟩ := KH.out j hj _ hjs
          rw [hjl] at a0 a1 a2 a3
          have oH5 := OH.out.keep hbe OH.out.lt
          have x0 := oH5.cell (i := p * 4) (by omega)
          have x1 := oH5.cell (i := p * 4 + 1) (by omega)
          have x2 := oH5.cell (i := p * 4 + 2) (by omega)
          have x3 := oH5.cell (i := p * 4 + 3) (by omega)
          rw [a0] at x0
          rw [a1] at x1
          rw [a2] at x2
          rw [a3] at x3
          clear a0 a1 a2 a3
          have d3 := keep hbe hm.c3
          have d5 := keep hbe hm.c5
          have d7 := keep hbe hm.c7
          have HRW := hide (hm.rows.hd)
          have hmb : mb < w5.heap.size := World.block_lt_of_cell? w5 _ d3
          have hgH : gH < w5.heap.size := oH5.lt
          have hbb : b < w5.heap.size := World.block_lt_of_cell? w5 _ g1'
          have hpi : (p : Int) < (A : Int) := by omega
          have hji : (j : Int) < (n : Int) := by omega
          have HJ : Hid (pt j = some (mb, mo)) := hjs
          have HJL : Hid (liveN pt j = p) := hjl
          clear hm hjs hjl oH5
          have HPV : Hid (p = 0 ∨ p ≠ 0 ∧ ∃ j', j' < j ∧ fH ((p - 1) * 4) = .int .i64 j') := by
            by_cases hp0 : p = 0
            · exact .inl hp0
            · obtain ⟨j', x', hj', hjs', hjl'⟩ := live_at pt n (p - 1) (by rw [← HL.out]; omega)
              refine .inr ⟨hp0, j', live_lt pt (by rw [hjl', HJL.out]; omega), ?_⟩
              have := (KH.out j' hj' x' hjs').1
              rwa [hjl'] at this
          obtain ⟨mk, hmk⟩ : ∃ mk, mk = ms j := ⟨_, rfl⟩
          rw [← hmk] at x1 x2 x3 d3 d5 d7 HRW
          have HMK := hide hmk
          clear hmk
          obtain ⟨frm, dst, rnd, num, val, stamp, sa, sn, sc, SA, SR, SP, ha, hn', hc, HA, HN, HS, pa, pn, pc, PA, PN, PS⟩ := mk
          dsimp only at x1 x2 x3 d3 d5 d7 HRW
          have HN0 : Hid (hn' = (ms j).hn ∧ HA = (ms j).HA ∧ HN = (ms j).HN ∧ HS = (ms j).HS) := by rw [← HMK.out]; exact ⟨rfl, rfl, rfl, rfl⟩
          clear HMK
          by_cases hz : hn' = 0
          · subst hz
            rw [pslice_zero] at x3
            have q1 := neq40
            rcases HPV.out with hp0 | ⟨hp0', j', hj', hf'⟩
            · subst hp0
              go_wp2
              go_quiet (fail)
              go_wp2
              go_roundw
              case rel => exact ⟨1, by omega, by go_num, below_drewN ((hbe.alloc hbe.size _)) _⟩
              case measure => simp [intOf]; omega
            · obtain ⟨p', rfl⟩ : ∃ p', p = p' + 1 := ⟨p - 1, by omega⟩
              have oH5 := OH.out.keep hbe OH.out.lt
              have y0 := oH5.cell (i := p' * 4) (by omega)
              have hf2 : fH (p' * 4) = .int .i64 j' := hf'
              rw [hf2] at y0
              clear hf' hf2 oH5
              have hj'' : (j' : Int) < (j : Int) := by omega
              go_wp2
              go_quiet (fail)
              go_wp2
              go_roundw
              case rel => exact ⟨p' + 1 + 1, by omega, by go_num, below_drewN ((hbe.alloc hbe.size _)) _⟩
              case measure => simp [intOf]; omega
          · rw [pslice_pos _ _ _ hz] at x3
            obtain ⟨S, HSS⟩ : ∃ S, Hid (S = sumN (hl pt ms) j) := ⟨_, rfl⟩
            rw [← HSS.out] at x3
            have RA : Hid (∀ q, q < hn' → w.cell? ⟨gA, S * 3 + q * 3, none⟩ = some (.int .i64 (HA q)) ∧ w.cell? ⟨gA, S * 3 + q * 3 + 1, none⟩ = some (.int .u64 (HN q)) ∧ w.cell? ⟨gA, S * 3 + q * 3 + 2, none⟩ = some (.int .u64 (HS q))) := by
              intro q hq
              obtain ⟨b0, b1, b2⟩ := KA.out j hj _ HJ.out q (by rw [← HN0.out.1]; exact hq)
              have hle := sumN_le (hl pt ms) (show j + 1 ≤ n from hj)
              rw [hl_some HJ.out, ← HT.out, ← HN0.out.1] at hle
              rw [← HSS.out, ← HN0.out.2.1] at b0
              rw [← HSS.out, ← HN0.out.2.2.1] at b1
              rw [← HSS.out, ← HN0.out.2.2.2] at b2
              rw [← HSS.out] at hle
              have e : S * 3 + q * 3 = (S + q) * 3 := by omega
              rw [e]
              exact ⟨by rw [← b0]; exact OA.out.cell (by omega), by rw [← b1]; exact OA.out.cell (by omega), by rw [← b2]; exact OA.out.cell (by omega)⟩
            have hnb : hn' ≤ 1048576 := by
              have hle := sumN_le (hl pt ms) (show j + 1 ≤ n from hj)
              rw [hl_some HJ.out, ← HT.out, ← HN0.out.1] at hle
              omega
            have hz' : ((hn' : Int) == 0) = false := by simp; omega
            have hz2 : 0 < hn' := by omega
            rcases HPV.out with hp0 | ⟨hp0', j', hj', hf'⟩
            · subst hp0
              go_wp2
              go_quiet (fail)
              go_wp2
              go_quiet (fail)
              go_wp2
              go_loopw [11] (fun i wz => ∃ q : Nat, q ≤ hn' ∧ i = .int .i64 q ∧ Hid (Below (w5.heap.size + 1) (w5.alloc (.cells #[.int .i64 j, .int .u64 num, .int .u64 stamp, .slice (some ⟨gA, S * 3, none⟩) hn' hn'] 42)) wz)) (fun i _ => hn' - (intOf i).toNat)
              case atStart => exact ⟨0, Nat.zero_le _, rfl, below_drewN (below_drewN (Below.refl _ _) _) _⟩
              case round =>
                obtain ⟨q, hq, rfl, HZ⟩ := hrel
                have hbz := HZ.out
                have hbw : Below w.heap.size w wr := (hbe.alloc hbe.size _).trans (hbz.mono (by have := hbe.size; omega))
                have hb5 : Below w5.heap.size w5 wr := ((Below.refl _ _).alloc (Nat.le_refl _) _).trans (hbz.mono (by omega))
                have z3 : wr.cell? ⟨w5.heap.size, 3, none⟩ = some (.slice (some ⟨gA, S * 3, none⟩) hn' hn') := by
                  rw [hbz.cell (p := ⟨w5.heap.size, 3, none⟩) (Nat.lt_succ_self _)]; simp
                have e7 := keep hb5 d7
                by_cases hqt : q < hn'
                · have R0 := keep hbw (RA.out q hqt).1
                  have R1 := keep hbw (RA.out q hqt).2.1
                  have R2 := keep hbw (RA.out q hqt).2.2
                  rcases HRW.out with h0 | ⟨hb, ho, rfl, hrow⟩
                  · omega
                  obtain ⟨r0, r1, r2, r3⟩ := hrow q hqt
                  have t0 := keep hbw r0
                  have t1 := keep hbw r1
                  have t2 := keep hbw r2
                  have t3 := keep hbw r3
                  have hqi : (q : Int) < (hn' : Int) := by omega
                  have hmb2 : mb < wr.heap.size := World.block_lt_of_cell? wr _ e7
                  have hhb2 : hb < wr.heap.size := World.block_lt_of_cell? wr _ t0
                  have HZ2 := hide ((hbz.alloc (show w5.heap.size + 1 ≤ wr.heap.size by have := hbz.size; simpa using this) (.cells #[.int .i64 (HA q), .int .u64 (HN q), .int .u64 (HS q)] 39)).alloc (by have := hbz.size; simp at this ⊢; omega) (.cells #[.int .i64 (HA q), .int .u64 (HN q), .int .u64 (HS q), .slice (pa q) (pn q) (pc q)] 72))
                  clear hrow r0 r1 r2 r3 hbz hbw hb5 d3 d5 d7 x0 x1 x2 x3
                  go_wp2
                  go_roundw
                  case rel => exact ⟨q + 1, by omega, by go_num, HZ2⟩
                  case measure => simp [intOf]; omega
                · go_wp2
                  go_roundw
                  case rel => exact ⟨1, by omega, by go_num, hbw⟩
                  case measure => simp [intOf]; omega
            · obtain ⟨p', rfl⟩ : ∃ p', p = p' + 1 := ⟨p - 1, by omega⟩
              have oH5 := OH.out.keep hbe OH.out.lt
              have y0 := oH5.cell (i := p' * 4) (by omega)
              have hf2 : fH (p' * 4) = .int .i64 j' := hf'
              rw [hf2] at y0
              clear hf' hf2 oH5
              have hj'' : (j' : Int) < (j : Int) := by omega
              go_wp2
              go_quiet (fail)
              go_wp2
              go_quiet (fail)
              go_wp2
              go_loopw [11] (fun i wz => ∃ q : Nat, q ≤ hn' ∧ i = .int .i64 q ∧ Hid (Below (w5.heap.size + 1) (w5.alloc (.cells #[.int .i64 j, .int .u64 num, .int .u64 stamp, .slice (some ⟨gA, S * 3, none⟩) hn' hn'] 42)) wz)) (fun i _ => hn' - (intOf i).toNat)
              case atStart => exact ⟨0, Nat.zero_le _, rfl, below_drewN (below_drewN (Below.refl _ _) _) _⟩
              case round =>
                obtain ⟨q, hq, rfl, HZ⟩ := hrel
                have hbz := HZ.out
                have hbw : Below w.heap.size w wr := (hbe.alloc hbe.size _).trans (hbz.mono (by have := hbe.size; omega))
                have hb5 : Below w5.heap.size w5 wr := ((Below.refl _ _).alloc (Nat.le_refl _) _).trans (hbz.mono (by omega))
                have z3 : wr.cell? ⟨w5.heap.size, 3, none⟩ = some (.slice (some ⟨gA, S * 3, none⟩) hn' hn') := by
                  rw [hbz.cell (p := ⟨w5.heap.size, 3, none⟩) (Nat.lt_succ_self _)]; simp
                have e7 := keep hb5 d7
                by_cases hqt : q < hn'
                · have R0 := keep hbw (RA.out q hqt).1
                  have R1 := keep hbw (RA.out q hqt).2.1
                  have R2 := keep hbw (RA.out q hqt).2.2
                  rcases HRW.out with h0 | ⟨hb, ho, rfl, hrow⟩
                  · omega
                  obtain ⟨r0, r1, r2, r3⟩ := hrow q hqt
                  have t0 := keep hbw r0
                  have t1 := keep hbw r1
                  have t2 := keep hbw r2
                  have t3 := keep hbw r3
                  have hqi : (q : Int) < (hn' : Int) := by omega
                  have hmb2 : mb < wr.heap.size := World.block_lt_of_cell? wr _ e7
                  have hhb2 : hb < wr.heap.size := World.block_lt_of_cell? wr _ t0
                  have HZ2 := hide ((hbz.alloc (show w5.heap.size + 1 ≤ wr.heap.size by have := hbz.size; simpa using this) (.cells #[.int .i64 (HA q), .int .u64 (HN q), .int .u64 (HS q)] 39)).alloc (by have := hbz.size; simp at this ⊢; omega) (.cells #[.int .i64 (HA q), .int .u64 (HN q), .int .u64 (HS q), .slice (pa q) (pn q) (pc q)] 72))
                  clear hrow r0 r1 r2 r3 hbz hbw hb5 d3 d5 d7 x0 x1 x2 x3
                  go_wp2
                  go_roundw
                  case rel => exact ⟨q + 1, by omega, by go_num, HZ2⟩
                  case measure => simp [intOf]; omega
                · go_wp2
                  go_roundw
                  case rel => exact ⟨p' + 1 + 1, by omega, by go_num, hbw⟩
                  case measure => simp [intOf]; omega
        · go_wp2
          go_ret
          exact ⟨rfl, HB.out⟩
end Go.Proofs.Qxb6605338a
