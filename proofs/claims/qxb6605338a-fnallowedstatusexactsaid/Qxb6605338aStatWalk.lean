/-
  Seat b6605338a. The walk of FnAllowedStatusExact (4), over its callees.
-/
import Derived.Test.Qxb6605338aAllowed
import Derived.Test.Qxb6605338aStatus
namespace Go.Proofs.Qxb6605338a
open Go.RowKit
set_option linter.unusedVariables false

theorem allB_congr {f g : Nat → Bool} {n : Nat} (h : ∀ i, i < n → f i = g i) : allB f n = allB g n := by
  induction n with
  | zero => rfl
  | succ n ih => rw [allB_succ, allB_succ, ih (fun i hi => h i (by omega)), h n (by omega)]

/-- What the walk is told of a message handed over by value. -/
structure MsgV (w : World) (m : Msg) : Prop where
  rows : Rows2 w m
  vl : m.val.size ≤ maxLen
  sh : Head m.sa m.sn m.sc
  hh : Head m.ha m.hn m.hc
  ph : ∀ i, i < m.hn → Head (m.pa i) (m.pn i) (m.pc i)
def msgCells (m : Msg) : Array Value := #[.int .i64 m.frm, .int .i64 m.dst, .int .i64 m.rnd, .int .u64 m.num, .string m.val, .int .u64 m.stamp, .slice m.sa m.sn m.sc, .slice m.ha m.hn m.hc]
theorem MsgV.box {w : World} {m : Msg} (h : MsgV w m) : IsMsg (w.alloc (.cells #[.int .i64 m.frm, .int .i64 m.dst, .int .i64 m.rnd, .int .u64 m.num, .string m.val, .int .u64 m.stamp, .slice m.sa m.sn m.sc, .slice m.ha m.hn m.hc] 46)) w.heap.size 0 m :=
  ⟨by simp, by simp, by simp, by simp, by simp, by simp, by simp, by simp, h.rows.keep ((Below.refl _ _).alloc (Nat.le_refl _) _), h.vl, h.sh, h.hh, h.ph⟩

set_option maxRecDepth 100000 in
set_option maxHeartbeats 1000000 in
theorem zz12_any (n f id rnd : Int) (m : Msg) (w : World) (h : MsgV w m) :
    Calls Try.prog 12 #[.int .i64 n, .int .i64 f, .int .i64 id, .int .i64 rnd, .agg #[.int .i64 m.frm, .int .i64 m.dst, .int .i64 m.rnd, .int .u64 m.num, .string m.val, .int .u64 m.stamp, .slice m.sa m.sn m.sc, .slice m.ha m.hn m.hc]] w fun e w' => AnyBool e ∧ Below w.heap.size w w' := by
  obtain ⟨⟨_, hrow, _⟩, vl, sh, hh, ph⟩ := h
  have HR := hide hrow
  clear hrow
  obtain ⟨frm, dst, mr, num, val, stamp, sa, sn, sc, SA, SR, SP, ha, hn, hc, HA, HN, HS, pa, pn, pc, PA, PN, PS⟩ := m
  dsimp only at *
  have fin := (Below.refl w.heap.size w).alloc (Nat.le_refl _) (.cells #[.int .i64 frm, .int .i64 dst, .int .i64 mr, .int .u64 num, .string val, .int .u64 stamp, .slice sa sn sc, .slice ha hn hc] 46)
  have FIN := hide fin
  clear fin
  go_enter Try.func12, Try.ntmps12
  go_wp2
  all_goals first | (go_ret; exact ⟨⟨_, rfl⟩, FIN.out⟩) | skip
  have hz : (val.size : Int) + sn + hn ≤ 1048576 := by assumption
  go_loop [11, 12] (fun s i => ∃ k' S' : Nat, k' ≤ hn ∧ i = .int .i64 k' ∧ s = .int .i64 S' ∧ S' ≤ 1048576) (fun _ i => hn - (intOf i).toNat)
  case atStart => exact ⟨0, val.size + sn + hn, Nat.zero_le _, rfl, by go_num, by omega⟩
  case round =>
    obtain ⟨k', S', hk', rfl, rfl, hS2⟩ := hrel
    have hS2' : (S' : Int) ≤ 1048576 := by omega
    by_cases hlt' : k' < hn
    · rcases HR.out with h0 | ⟨hb, ho, rfl, hrow⟩
      · omega
      have g3 := (hrow k' hlt').2.2.2
      have hbl : hb < w.heap.size := World.block_lt_of_cell? w _ g3
      have hli' : (k' : Int) < (hn : Int) := by omega
      clear hrow
      go_wp2
      all_goals first | (go_ret; exact ⟨⟨_, rfl⟩, FIN.out⟩) | skip
      have hz2 : (S' : Int) + pn k' ≤ 1048576 := by assumption
      go_round
      case rel => exact ⟨k' + 1, S' + pn k', by omega, by go_num, by go_num, by omega⟩
      case measure => simp [intOf]; omega
    · go_wp2
      go_ret
      exact ⟨⟨_, rfl⟩, FIN.out⟩

set_option maxRecDepth 100000 in
set_option maxHeartbeats 1000000 in
theorem walk4 (n f id rnd : Int) (m : Msg) (w : World) (h : MsgV w m) :
    Calls Try.prog 4 #[.int .i64 n, .int .i64 f, .int .i64 id, .int .i64 rnd, .agg #[.int .i64 m.frm, .int .i64 m.dst, .int .i64 m.rnd, .int .u64 m.num, .string m.val, .int .u64 m.stamp, .slice m.sa m.sn m.sc, .slice m.ha m.hn m.hc]] w fun e w' => e = .returned (.bool true) ∧ Below w.heap.size w w' := by
  have H := hide h
  have HB := hide h.box
  have HW := hide ((Below.refl w.heap.size w).alloc (Nat.le_refl _) (.cells #[.int .i64 m.frm, .int .i64 m.dst, .int .i64 m.rnd, .int .u64 m.num, .string m.val, .int .u64 m.stamp, .slice m.sa m.sn m.sc, .slice m.ha m.hn m.hc] 46))
  clear h
  go_enter Try.func4, Try.ntmps4
  go_wp2_with fail
  generalize hW0 : w.alloc (.cells #[.int .i64 m.frm, .int .i64 m.dst, .int .i64 m.rnd, .int .u64 m.num, .string m.val, .int .u64 m.stamp, .slice m.sa m.sn m.sc, .slice m.ha m.hn m.hc] 46) = W0 at *
  have hsz : w.heap.size < W0.heap.size := by rw [← hW0]; simp
  clear hW0
  have hV0 : MsgV W0 m := ⟨HB.out.rows, HB.out.vl, HB.out.sh, HB.out.hh, HB.out.ph⟩
  refine (zz12_any n f id rnd m W0 hV0).mono ?_
  rintro e w1 ⟨⟨r, rfl⟩, hb1⟩
  have HB1 := hide (HB.out.keep hb1)
  have HW1 := hide (HW.out.trans (hb1.mono HW.out.size))
  clear hV0 hb1
  cases r with
  | false =>
    go_wp2
    go_ret
    exact ⟨rfl, HW1.out⟩
  | true =>
    go_wp2_with fail
    refine (msgBytes_any w.heap.size 0 m w1 HB1.out).mono ?_
    rintro e w2 ⟨B, rfl, hB0, hB1, hB2, q, rfl⟩
    by_cases hBL : 1048576 < B
    · go_wp2
      go_ret
      exact ⟨rfl, below_drewN HW1.out q⟩
    have hms : mSize m ≤ 1048576 := by have := hB2 (by omega); omega
    have HMS := hide hms
    have hBL' : B ≤ 1048576 := by omega
    clear hB2 hms hBL
    by_cases hn : 65536 < n
    · go_wp2
      go_ret
      exact ⟨rfl, below_drewN HW1.out q⟩
    have hn' : n ≤ 65536 := by omega
    have b1 : m.sn ≤ 1048576 := by have := HMS.out; unfold mSize mBase at this; omega
    have b2 : m.hn ≤ 1048576 := by have := HMS.out; unfold mSize mBase at this; omega
    have b3 : ∀ i, i < m.hn → m.pn i ≤ 1048576 := by
      intro i hi
      have := HMS.out
      have := sumN_one m.pn hi
      unfold mSize mBase at *; omega
    have HB3 := hide b3
    clear b3
    obtain ⟨R, HR⟩ : ∃ R, Hid (R = sm n id m.frm rnd m.sn m.hn m.SA m.SR m.SP m.HA (fun i => hm n (wrap64 (rnd - 1)) (m.HA i) (m.HS i) (m.pa i).isNone (m.pn i) (m.PA i) (m.PS i))) := ⟨_, rfl⟩
    have HR2 : Hid (R = as' n id m.frm rnd m.sn m.hn m.SA m.SR m.SP m.HA (fun i => hm n (wrap64 (rnd - 1)) (m.HA i) (m.HS i) (m.pa i).isNone (m.pn i) (m.PA i) (m.PS i))) := by show _ = _; rw [HR.out, sm_as]
    go_wp2_with fail
    refine (status_any w.heap.size 0 m n id rnd (w1.drewN q) hn' (HB1.out.keep (below_drewN' w1 q)) b1 b2 HB3.out R HR.out).mono ?_
    rintro e w3 ⟨rfl, hb3⟩
    have HB4 := hide ((HB1.out.keep (below_drewN' w1 q)).keep hb3)
    have HW4 := hide ((below_drewN HW1.out q).trans (hb3.mono (by have := HW1.out.size; simpa using this)))
    clear hb3
    go_wp2_with fail
    refine (toMsg w.heap.size 0 m w3 HB4.out b1 b2 HB3.out).mono ?_
    rintro e w4 ⟨sa', ha', pa', rfl, hout⟩
    have HO := hide hout
    clear hout
    go_wp2_with fail
    refine (zzallowed_any n f id rnd m.frm m.dst m.rnd m.num m.val m.stamp sa' m.sn m.sn m.SA m.SR m.SP ha' m.hn m.hn m.HA m.HN m.HS pa' m.pn m.pn m.PA m.PN m.PS w4 HO.out.rows.st HO.out.rows.hd HO.out.rows.ps b1 b2 HB3.out hn' R ?_).mono ?_
    · rw [HR2.out]
      unfold as'
      congr 2
      have : ∀ i, i < m.hn → (pa' i).isNone = (m.pa i).isNone := by
        intro i hi
        have := HO.out.pnil i hi
        rw [Bool.eq_iff_iff, Option.isNone_iff_eq_none, Option.isNone_iff_eq_none]
        exact this
      exact allB_congr (fun i hi => by rw [this i hi])
    rintro e w5 ⟨rfl, hb5⟩
    have HW5 := hide ((HW4.out.trans (HO.out.bel.mono HW4.out.size)).trans (hb5.mono (Nat.le_trans HW4.out.size HO.out.bel.size)))
    clear hb5
    go_wp2
    go_ret
    exact ⟨by simp, HW5.out⟩
end Go.Proofs.Qxb6605338a
