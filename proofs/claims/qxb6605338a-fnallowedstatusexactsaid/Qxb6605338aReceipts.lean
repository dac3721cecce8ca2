/-
  Seat b6605338a. 'receipts' (23) and its front 'ZZReceipts' (10).
-/
import Derived.Test.Qxb6605338aToMsg
import Derived.Test.Qxb6605338aApp
namespace Go.Proofs.Qxb6605338a
open Go.RowKit
set_option linter.unusedVariables false

/-- concordat.Message at block b, offset o: what 'receipts' reads of it. -/
structure MC (w : World) (b o : Nat) (m : Msg) : Prop where
  c3 : w.cell? ⟨b, o + 3, none⟩ = some (.int .u64 m.num)
  c5 : w.cell? ⟨b, o + 5, none⟩ = some (.int .u64 m.stamp)
  c8 : w.cell? ⟨b, o + 8, none⟩ = some (.slice m.ha m.hn m.hc)
  hd : Row4 w m.ha m.hn m.HA m.HN m.HS m.pa m.pn m.pc

def IsMs (w : World) (a : Option Addr) (n : Nat) (pt : Nat → Option (Nat × Nat)) (ms : Nat → Msg) : Prop :=
  n = 0 ∨ ∃ b o, a = some ⟨b, o, none⟩ ∧ ∀ j, j < n → w.cell? ⟨b, o + j, none⟩ = some (ptrV (pt j)) ∧ ∀ x, pt j = some x → MC w x.1 x.2 (ms j)

/-- How many of the first k messages came. -/
def liveN (pt : Nat → Option (Nat × Nat)) : Nat → Nat := sumN fun j => if (pt j).isSome then 1 else 0
/-- How many receipts message j passes on. -/
def hl (pt : Nat → Option (Nat × Nat)) (ms : Nat → Msg) (j : Nat) : Nat := if (pt j).isSome then (ms j).hn else 0

theorem liveN_none {pt : Nat → Option (Nat × Nat)} {k : Nat} (h : pt k = none) : liveN pt (k + 1) = liveN pt k := by simp [liveN, sumN, h]
theorem liveN_some {pt : Nat → Option (Nat × Nat)} {k : Nat} {x : Nat × Nat} (h : pt k = some x) : liveN pt (k + 1) = liveN pt k + 1 := by simp [liveN, sumN, h]
theorem liveN_le (pt : Nat → Option (Nat × Nat)) {k n : Nat} (h : k ≤ n) : liveN pt k ≤ liveN pt n := sumN_le _ h
theorem liveN_n (pt : Nat → Option (Nat × Nat)) (k : Nat) : liveN pt k ≤ k := by
  induction k with
  | zero => exact Nat.le_refl _
  | succ k ih => cases h : pt k with
    | none => rw [liveN_none h]; omega
    | some x => rw [liveN_some h]; omega
theorem hl_none {pt : Nat → Option (Nat × Nat)} {ms : Nat → Msg} {k : Nat} (h : pt k = none) : sumN (hl pt ms) (k + 1) = sumN (hl pt ms) k := by simp [sumN, hl, h]
theorem hl_some {pt : Nat → Option (Nat × Nat)} {ms : Nat → Msg} {k : Nat} {x : Nat × Nat} (h : pt k = some x) : sumN (hl pt ms) (k + 1) = sumN (hl pt ms) k + (ms k).hn := by simp [sumN, hl, h]

/-- What an entry passes on: nil where the message passed nothing on. -/
def pslice (g off n : Nat) : Value := if n = 0 then .slice none 0 0 else .slice (some ⟨g, off * 3, none⟩) n n

def HeadsOK (fH : Nat → Value) (gA : Nat) (pt : Nat → Option (Nat × Nat)) (ms : Nat → Msg) (k : Nat) : Prop :=
  ∀ j, j < k → ∀ x, pt j = some x → At4 fH (liveN pt j * 4) (.int .i64 j) (.int .u64 (ms j).num) (.int .u64 (ms j).stamp) (pslice gA (sumN (hl pt ms) j) (ms j).hn)
def RecsOK (fA : Nat → Value) (pt : Nat → Option (Nat × Nat)) (ms : Nat → Msg) (k : Nat) : Prop :=
  ∀ j, j < k → ∀ x, pt j = some x → ∀ i, i < (ms j).hn → At3 fA ((sumN (hl pt ms) j + i) * 3) (.int .i64 ((ms j).HA i)) (.int .u64 ((ms j).HN i)) (.int .u64 ((ms j).HS i))

/-- The second loop of 'receipts', k messages seen. -/
structure LoopR (w wr : World) (gH gA L T k : Nat) (pt : Nat → Option (Nat × Nat)) (ms : Nat → Msg) : Prop where
  own : ∃ f, Own wr gH (L * 4) 42 f ∧ HeadsOK f gA pt ms k
  recs : ∃ f, Own wr gA (T * 3) 39 f ∧ RecsOK f pt ms k
  bel : Below w.heap.size w wr

theorem make30' (n : Nat) (hn : n ≤ 1048576) (w : World) : (Instr.makeSlice 30 (.int .i64 0) (.int .i64 n)).run Try.prog w = .ok (.slice (some ⟨w.heap.size, 0, none⟩) 0 n) (w.alloc (.cells (madeCells #[.int .i64 0, .int .u64 0, .int .u64 0, .slice none 0 0] (n * 4)) 42)) := by
  obtain ⟨i0, hi, hz0, hz1, hz2⟩ := info_parts Try.info42
  have h := run_make (P := Try.prog) w 30 42 i0 _ Try.underlying30 hi hz0 .i64 .i64 0 n (by omega) (by omega) (by rw [hz2]; omega) (by omega)
  simpa [hz1, Value.cells] using h
theorem make40' (n : Nat) (hn : n ≤ 1048576) (w : World) : (Instr.makeSlice 40 (.int .i64 0) (.int .i64 n)).run Try.prog w = .ok (.slice (some ⟨w.heap.size, 0, none⟩) 0 n) (w.alloc (.cells (madeCells #[.int .i64 0, .int .u64 0, .int .u64 0] (n * 3)) 39)) := by
  obtain ⟨i0, hi, hz0, hz1, hz2⟩ := info_parts Try.info39
  have h := run_make (P := Try.prog) w 40 39 i0 _ Try.underlying40 hi hz0 .i64 .i64 0 n (by omega) (by omega) (by rw [hz2]; omega) (by omega)
  simpa [hz1, Value.cells] using h

theorem LoopR.step_none {w wr : World} {gH gA L T k : Nat} {pt : Nat → Option (Nat × Nat)} {ms : Nat → Msg} (h : LoopR w wr gH gA L T k pt ms) (hp : pt k = none) : LoopR w wr gH gA L T (k + 1) pt ms := by
  obtain ⟨⟨f, h1, h2⟩, ⟨f', h3, h4⟩, h5⟩ := h
  refine ⟨⟨f, h1, fun j hj x hx => ?_⟩, ⟨f', h3, fun j hj x hx => ?_⟩, h5⟩
  · by_cases e : j = k
    · subst e; rw [hp] at hx; cases hx
    · exact h2 j (by omega) x hx
  · by_cases e : j = k
    · subst e; rw [hp] at hx; cases hx
    · exact h4 j (by omega) x hx

/-- The inner loop: q receipts of message k have been appended. w1: the world ahead of it. -/
structure LoopE (w1 wz : World) (gA T S q k : Nat) (pt : Nat → Option (Nat × Nat)) (ms : Nat → Msg) (HA HN HS : Nat → Int) : Prop where
  own : ∃ f, Own wz gA (T * 3) 39 f ∧ RecsOK f pt ms k ∧ ∀ i, i < q → At3 f ((S + i) * 3) (.int .i64 (HA i)) (.int .u64 (HN i)) (.int .u64 (HS i))
  grw : w1.grownBy wz (some gA)

/-- Where the ways through 'if len(m.Heard) > 0' meet. -/
structure CutD (wr wd : World) (gX gA T S k : Nat) (pt : Nat → Option (Nat × Nat)) (ms : Nat → Msg) : Prop where
  own : ∃ f, Own wd gA (T * 3) 39 f ∧ RecsOK f pt ms (k + 1)
  ent : ∃ f, Own wd gX 4 42 f ∧ At4 f 0 (.int .i64 k) (.int .u64 (ms k).num) (.int .u64 (ms k).stamp) (pslice gA S (ms k).hn)
  grw : wr.grownBy wd (some gA)

theorem grownBy_refl (w : World) (r : Option Nat) : w.grownBy w r := ⟨rfl, rfl, rfl, Nat.le_refl _, fun _ _ _ => rfl⟩
theorem grownBy_trans {a b c : World} {r : Option Nat} (h : a.grownBy b r) (k : b.grownBy c r) : a.grownBy c r :=
  ⟨k.os.trans h.os, k.tape.trans h.tape, k.output.trans h.output, Nat.le_trans h.size k.size, fun i hi hne => (k.block i (Nat.lt_of_lt_of_le hi h.size) hne).trans (h.block i hi hne)⟩
theorem grownBy_same {w w' : World} {g : Nat} (hs : SameBut g w w') (hb : Below g w w') : w.grownBy w' (some g) := ⟨hb.os, hb.tape, hb.output, hb.size, fun k _ hne => hs k (fun e => hne (by rw [e]))⟩
theorem grownBy_drew (w : World) (r : Option Nat) : w.grownBy w.drew r := ⟨rfl, rfl, rfl, Nat.le_refl _, fun _ _ _ => rfl⟩
theorem grownBy_set (w : World) (g o : Nat) (v : Value) : w.grownBy (w.setCell ⟨g, o, none⟩ v) (some g) := ⟨rfl, rfl, rfl, by simp [World.setCell], fun k _ hne => Below.heap_setCell w _ v k (fun e => hne (by rw [e]))⟩
theorem grownBy_past {w w' : World} {g : Nat} (h : w.grownBy w' (some g)) {w'' : World} {r : Option Nat} (k : w'.grownBy w'' r) (hr : ∀ x, r = some x → w.heap.size ≤ x) : w.grownBy w'' (some g) :=
  ⟨k.os.trans h.os, k.tape.trans h.tape, k.output.trans h.output, Nat.le_trans h.size k.size, fun i hi hne => (k.block i (Nat.lt_of_lt_of_le hi h.size) (fun e => by have := hr i e.symm; omega)).trans (h.block i hi hne)⟩

/-- The receipts of the messages seen lie ahead of what is written next. -/
theorem RecsOK.over {f : Nat → Value} {pt : Nat → Option (Nat × Nat)} {ms : Nat → Msg} {k : Nat} (h : RecsOK f pt ms k) {o : Nat} (ho : sumN (hl pt ms) k ≤ o) (news : List Value) : RecsOK (Qxb6605338a.over f (o * 3) news) pt ms k := by
  intro j hj x hx i hi
  obtain ⟨h0, h1, h2⟩ := h j hj x hx i hi
  have := sumN_le (hl pt ms) (show j + 1 ≤ k from hj)
  rw [hl_some hx] at this
  refine ⟨?_, ?_, ?_⟩
  · rw [over_out _ _ _ _ (by omega)]; exact h0
  · rw [over_out _ _ _ _ (by omega)]; exact h1
  · rw [over_out _ _ _ _ (by omega)]; exact h2

theorem over3_at (f : Nat → Value) (o : Nat) (a b c : Value) : At3 (Qxb6605338a.over f o [a, b, c]) o a b c :=
  ⟨over_in f o [a, b, c] 0 (by simp), over_in f o [a, b, c] 1 (by simp), over_in f o [a, b, c] 2 (by simp)⟩
theorem over4_at (f : Nat → Value) (o : Nat) (a b c d : Value) : At4 (Qxb6605338a.over f o [a, b, c, d]) o a b c d :=
  ⟨over_in f o [a, b, c, d] 0 (by simp), over_in f o [a, b, c, d] 1 (by simp), over_in f o [a, b, c, d] 2 (by simp), over_in f o [a, b, c, d] 3 (by simp)⟩

theorem LoopE.mk_step {w1 wz w' : World} {gA T S q k : Nat} {pt : Nat → Option (Nat × Nat)} {ms : Nat → Msg} {HA HN HS : Nat → Int} {f : Nat → Value} {o1 o2 : Obj} (hS : S = sumN (hl pt ms) k)
    (h0 : RecsOK f pt ms k) (h1 : ∀ i, i < q → At3 f ((S + i) * 3) (.int .i64 (HA i)) (.int .u64 (HN i)) (.int .u64 (HS i))) (hg : w1.grownBy wz (some gA))
    (hO : Own w' gA (T * 3) 39 (over f ((S + q) * 3) [.int .i64 (HA q), .int .u64 (HN q), .int .u64 (HS q)])) (hs : SameBut gA ((wz.alloc o1).alloc o2) w') (hb : Below gA ((wz.alloc o1).alloc o2) w') :
    LoopE w1 w' gA T S (q + 1) k pt ms HA HN HS := by
  refine ⟨⟨_, hO, h0.over (by omega) _, fun i hi => ?_⟩, ?_⟩
  · by_cases e : i = q
    · subst e; exact over3_at _ _ _ _ _
    · obtain ⟨a0, a1, a2⟩ := h1 i (by omega)
      refine ⟨?_, ?_, ?_⟩
      · rw [over_out _ _ _ _ (by omega)]; exact a0
      · rw [over_out _ _ _ _ (by omega)]; exact a1
      · rw [over_out _ _ _ _ (by omega)]; exact a2
  · exact grownBy_trans hg (grownBy_trans (World.grownBy_alloc _ _ _) (grownBy_trans (World.grownBy_alloc _ _ _) (grownBy_same hs hb)))

theorem RecsOK.more {f : Nat → Value} {pt : Nat → Option (Nat × Nat)} {ms : Nat → Msg} {k S : Nat} (hS : S = sumN (hl pt ms) k) (h : RecsOK f pt ms k) (h1 : ∀ i, i < (ms k).hn → At3 f ((S + i) * 3) (.int .i64 ((ms k).HA i)) (.int .u64 ((ms k).HN i)) (.int .u64 ((ms k).HS i))) : RecsOK f pt ms (k + 1) := by
  intro j hj x hx i hi
  by_cases e : j = k
  · subst e; rw [← hS]; exact h1 i hi
  · exact h j (by omega) x hx i hi

theorem ent_new (w : World) (a b c d : Value) (T : TypeId) : ∃ f, Own (w.alloc (.cells #[a, b, c, d] T)) w.heap.size 4 T f ∧ At4 f 0 a b c d := ⟨_, Own.new w #[a, b, c, d] T, rfl, rfl, rfl, rfl⟩

theorem pslice_zero (g off : Nat) : pslice g off 0 = .slice none 0 0 := if_pos rfl
theorem pslice_pos (g off n : Nat) (h : n ≠ 0) : pslice g off n = .slice (some ⟨g, off * 3, none⟩) n n := if_neg h
theorem pslice_one (g off n : Nat) : (pslice g off n).oneCell' = true := by unfold pslice; split <;> rfl

/-- No receipt to append. -/
theorem cutD_zero {w w5 : World} {gH gA L T k S : Nat} {pt : Nat → Option (Nat × Nat)} {ms : Nat → Msg} {num stamp : Int} (hS : S = sumN (hl pt ms) k) (h : LoopR w w5 gH gA L T k pt ms) (h0 : (ms k).hn = 0) (hnum : num = (ms k).num) (hst : stamp = (ms k).stamp) :
    CutD w5 (w5.alloc (.cells #[.int .i64 k, .int .u64 num, .int .u64 stamp, .slice none 0 0] 42)).drew w5.heap.size gA T S k pt ms := by
  obtain ⟨_, ⟨f, hf, hr⟩, _⟩ := h
  refine ⟨⟨f, (hf.alloc _).drew, hr.more hS (fun i hi => by omega)⟩, ?_, grownBy_trans (World.grownBy_alloc _ _ _) (grownBy_drew _ _)⟩
  obtain ⟨g, hg, ha⟩ := ent_new w5 (.int .i64 k) (.int .u64 num) (.int .u64 stamp) (.slice none 0 0) 42
  exact ⟨g, hg.drew, by rw [h0, pslice_zero, ← hnum, ← hst]; exact ha⟩

/-- All receipts appended, the entry's Passed stored. -/
theorem cutD_pos {w5 wz : World} {gA T k S n : Nat} {pt : Nat → Option (Nat × Nat)} {ms : Nat → Msg} {num stamp : Int} (hS : S = sumN (hl pt ms) k) (h0 : n ≠ 0) (hn : n = (ms k).hn) (hnum : num = (ms k).num) (hst : stamp = (ms k).stamp) (hgA : gA < w5.heap.size)
    (h : LoopE (w5.alloc (.cells #[.int .i64 k, .int .u64 num, .int .u64 stamp, .slice none 0 0] 42)).drew wz gA T S n k pt ms (ms k).HA (ms k).HN (ms k).HS) :
    CutD w5 (wz.setCell ⟨w5.heap.size, 3, none⟩ (.slice (some ⟨gA, S * 3, none⟩) n n)) w5.heap.size gA T S k pt ms := by
  obtain ⟨⟨f, hf, hr, h1⟩, hg⟩ := h
  refine ⟨⟨f, hf.set_ne (by simp; omega) _, hr.more hS (by rw [← hn]; exact h1)⟩, ?_, ?_⟩
  · obtain ⟨g, hg', ha⟩ := ent_new w5 (.int .i64 k) (.int .u64 num) (.int .u64 stamp) (.slice none 0 0) 42
    have := (hg'.drew.grown hg (by simp; omega)).set 3 (.slice (some ⟨gA, S * 3, none⟩) n n)
    refine ⟨_, this, ?_⟩
    obtain ⟨a0, a1, a2, a3⟩ := ha
    rw [← hn, pslice_pos _ _ _ h0, ← hnum, ← hst]
    exact ⟨by rw [upd_ne _ _ (by omega)]; exact a0, by rw [upd_ne _ _ (by omega)]; exact a1, by rw [upd_ne _ _ (by omega)]; exact a2, upd_same _ _ _⟩
  · refine grownBy_past (grownBy_trans (grownBy_trans (World.grownBy_alloc _ _ _) (grownBy_drew _ _)) hg) (grownBy_set wz w5.heap.size 3 _) (fun x hx => by simp at hx; omega)

/-- One entry more. -/
theorem LoopR.step_some {w w5 wd w' : World} {gH gA L T k S l : Nat} {pt : Nat → Option (Nat × Nat)} {ms : Nat → Msg} {x : Nat × Nat} {f : Nat → Value} {o1 : Obj} (h : LoopR w w5 gH gA L T k pt ms) (hp : pt k = some x) (hS : S = sumN (hl pt ms) k) (hl' : l = liveN pt k) (hH : w.heap.size ≤ gH) (hne : gH < gA)
    (hD : CutD w5 wd w5.heap.size gA T S k pt ms) (hf : HeadsOK f gA pt ms k)
    (hO : Own w' gH (L * 4) 42 (over f (l * 4) [.int .i64 k, .int .u64 (ms k).num, .int .u64 (ms k).stamp, pslice gA S (ms k).hn])) (hs : SameBut gH (wd.alloc o1) w') (hb : Below gH (wd.alloc o1) w') : LoopR w w' gH gA L T (k + 1) pt ms := by
  obtain ⟨_, ⟨_, h3, _⟩, h5⟩ := h
  obtain ⟨⟨fA, hA, hr⟩, _, hg⟩ := hD
  refine ⟨⟨_, hO, fun j hj y hy => ?_⟩, ⟨fA, (hA.alloc o1).of_block (hs gA (by omega)), hr⟩, ?_⟩
  · by_cases e : j = k
    · subst e; rw [← hl', ← hS]; exact over4_at _ _ _ _ _ _
    · obtain ⟨a0, a1, a2, a3⟩ := hf j (by omega) y hy
      have := liveN_le pt (show j + 1 ≤ k by omega)
      rw [liveN_some hy] at this
      exact ⟨by rw [over_out _ _ _ _ (by omega)]; exact a0, by rw [over_out _ _ _ _ (by omega)]; exact a1, by rw [over_out _ _ _ _ (by omega)]; exact a2, by rw [over_out _ _ _ _ (by omega)]; exact a3⟩
  · have hgA := h3.lt
    exact (((h5.grown hg h5.size (fun i hi => by simp at hi; omega)).alloc (Nat.le_trans h5.size hg.size) o1)).trans (hb.mono hH)

def ReceiptsPost (w : World) (n : Nat) (pt : Nat → Option (Nat × Nat)) (ms : Nat → Msg) (e : Ending) (w' : World) : Prop :=
  ∃ gH gA, e = .returned (.slice (some ⟨gH, 0, none⟩) (liveN pt n) (liveN pt n)) ∧ w.heap.size ≤ gH ∧ gH < gA ∧ LoopR w w' gH gA (liveN pt n) (sumN (hl pt ms) n) n pt ms

set_option maxRecDepth 100000 in
set_option maxHeartbeats 1000000 in
theorem receipts_any (a : Option Addr) (n c : Nat) (pt : Nat → Option (Nat × Nat)) (ms : Nat → Msg) (w : World) (h : IsMs w a n pt ms) (hn : n ≤ 1048576) (hT : sumN (hl pt ms) n ≤ 1048576) :
    Calls Try.prog 23 #[.slice a n c] w fun e w' => ReceiptsPost w n pt ms e w' := by
  have H : Hid _ := h
  clear h
  obtain ⟨L, HL⟩ : ∃ L, Hid (L = liveN pt n) := ⟨_, rfl⟩
  obtain ⟨T, HT⟩ : ∃ T, Hid (T = sumN (hl pt ms) n) := ⟨_, rfl⟩
  have hLn : L ≤ 1048576 := by rw [HL.out]; have := liveN_n pt n; omega
  have hTn : T ≤ 1048576 := by rw [HT.out]; exact hT
  clear hT
  go_enter Try.func23, Try.ntmps23
  go_wp2
  go_loop [3, 4, 17] (fun s t i => ∃ k A B : Nat, k ≤ n ∧ i = .int .i64 k ∧ s = .int .i64 A ∧ t = .int .i64 B ∧ A ≤ 1048576 ∧ B ≤ 1048576 ∧ Hid (A = liveN pt k ∧ B = sumN (hl pt ms) k)) (fun _ _ i => n - (intOf i).toNat)
  case atStart => exact ⟨0, 0, 0, Nat.zero_le _, rfl, rfl, rfl, by omega, by omega, rfl, rfl⟩
  case round =>
    obtain ⟨k, A, B, hk, rfl, rfl, rfl, hA, hB, HAB⟩ := hrel
    by_cases hlt : k < n
    · rcases H.out with h0 | ⟨b, o, rfl, hc⟩
      · omega
      have hli : (k : Int) < (n : Int) := by omega
      obtain ⟨g1, g2⟩ := hc k hlt
      clear hc
      cases hp : pt k with
      | none =>
        rw [hp] at g1
        have HS : Hid (A = liveN pt (k + 1) ∧ B = sumN (hl pt ms) (k + 1)) := by rw [liveN_none hp, hl_none hp]; exact HAB
        clear hp g2
        have g1' : w.cell? ⟨b, o + k, none⟩ = some (.pointer none) := g1
        clear g1
        go_wp2
        go_round
        case rel => exact ⟨k + 1, A, B, by omega, by go_num, rfl, rfl, hA, hB, HS⟩
        case measure => simp [intOf]; omega
      | some x =>
        obtain ⟨mb, mo⟩ := x
        have hm := g2 _ hp
        rw [hp] at g1
        have HS : Hid (A + 1 = liveN pt (k + 1) ∧ B + (ms k).hn = sumN (hl pt ms) (k + 1)) := by rw [liveN_some hp, hl_some hp, HAB.out.1, HAB.out.2]; exact ⟨rfl, rfl⟩
        have hA1 : A + 1 ≤ 1048576 := by rw [HS.out.1]; have := liveN_le pt (show k + 1 ≤ n from hlt); rw [← HL.out] at this; omega
        have hB1 : B + (ms k).hn ≤ 1048576 := by rw [HS.out.2]; have := sumN_le (hl pt ms) (show k + 1 ≤ n from hlt); rw [← HT.out] at this; omega
        clear hp g2
        have g1' : w.cell? ⟨b, o + k, none⟩ = some (.pointer (some ⟨mb, mo, none⟩)) := g1
        clear g1
        have g8 := hm.c8
        clear hm
        go_wp2
        go_round
        case rel => exact ⟨k + 1, A + 1, B + (ms k).hn, by omega, by go_num, by go_num, by go_num, hA1, hB1, HS⟩
        case measure => simp [intOf]; omega
    · have hke : k = n := by omega
      have hAL : A = L := by rw [HL.out, HAB.out.1, hke]
      have hBT : B = T := by rw [HT.out, HAB.out.2, hke]
      subst hAL hBT
      clear HAB
      have hm1 := make30' A hLn
      have hm2 := make40' B hTn
      go_wp2
      go_loopw [7, 8, 39] (fun h al i wr => ∃ k : Nat, k ≤ n ∧ i = .int .i64 k ∧ ∃ lk tk : Nat, h = .slice (some ⟨w.heap.size, 0, none⟩) lk A ∧ al = .slice (some ⟨w.heap.size + 1, 0, none⟩) tk B ∧ Hid (lk = liveN pt k ∧ tk = sumN (hl pt ms) k ∧ LoopR w wr w.heap.size (w.heap.size + 1) A B k pt ms)) (fun _ _ i _ => n - (intOf i).toNat)
      case atStart =>
        obtain ⟨f, hf⟩ := Own.new' w (madeCells #[.int .i64 0, .int .u64 0, .int .u64 0, .slice none 0 0] (A * 4)) 42 (N := A * 4) (size_madeCells _ _)
        obtain ⟨f', hf'⟩ := Own.new' (w.alloc (.cells (madeCells #[.int .i64 0, .int .u64 0, .int .u64 0, .slice none 0 0] (A * 4)) 42)) (madeCells #[.int .i64 0, .int .u64 0, .int .u64 0] (B * 3)) 39 (N := B * 3) (size_madeCells _ _)
        exact ⟨0, Nat.zero_le _, rfl, 0, 0, rfl, rfl, rfl, rfl, ⟨f, hf.alloc _, fun j hj => by omega⟩, ⟨f', by simpa using hf', fun j hj => by omega⟩, ((Below.refl _ _).alloc (Nat.le_refl _) _).alloc (by simp) _⟩
      case round =>
        obtain ⟨k2, hk2, rfl, lk, tk, rfl, rfl, HLR⟩ := hrel
        by_cases hlt2 : k2 < n
        · rcases H.out with h0 | ⟨b, o, rfl, hc⟩
          · omega
          have hli : (k2 : Int) < (n : Int) := by omega
          obtain ⟨g1, g2⟩ := hc k2 hlt2
          clear hc hm1 hm2
          obtain ⟨w5, h5⟩ : ∃ x, x = wr := ⟨_, rfl⟩
          subst h5
          have hbe := HLR.out.2.2.bel
          cases hp : pt k2 with
          | none =>
            rw [hp] at g1
            have HS : Hid (lk = liveN pt (k2 + 1) ∧ tk = sumN (hl pt ms) (k2 + 1) ∧ LoopR w w5 w.heap.size (w.heap.size + 1) A B (k2 + 1) pt ms) := by rw [liveN_none hp, hl_none hp]; exact ⟨HLR.out.1, HLR.out.2.1, HLR.out.2.2.step_none hp⟩
            clear hp g2
            have g1' : w5.cell? ⟨b, o + k2, none⟩ = some (.pointer none) := keep hbe g1
            clear g1
            go_wp2
            go_roundw
            case rel => exact ⟨k2 + 1, by omega, by go_num, lk, tk, rfl, rfl, HS⟩
            case measure => simp [intOf]; omega
          | some x =>
            obtain ⟨mb, mo⟩ := x
            have hm := g2 _ hp
            rw [hp] at g1
            have HP : Hid (pt k2 = some (mb, mo)) := hp
            clear hp g2
            have g1' : w5.cell? ⟨b, o + k2, none⟩ = some (.pointer (some ⟨mb, mo, none⟩)) := keep hbe g1
            clear g1
            have d3 := keep hbe hm.c3
            have d5 := keep hbe hm.c5
            have d8 := keep hbe hm.c8
            have HRW : Hid _ := hm.hd
            clear hm
            obtain ⟨mk, hmk⟩ : ∃ mk, mk = ms k2 := ⟨_, rfl⟩
            rw [← hmk] at d3 d5 d8 HRW
            have HMK : Hid (mk = ms k2) := hmk
            clear hmk
            obtain ⟨frm, dst, rnd, num, val, stamp, sa, sn, sc, SA, SR, SP, ha, hn', hc, HA, HN, HS, pa, pn, pc, PA, PN, PS⟩ := mk
            dsimp only at d3 d5 d8 HRW
            have hmb : mb < w5.heap.size := World.block_lt_of_cell? w5 _ d3
            go_wp2
            go_region
            have hgA : w.heap.size + 1 < w5.heap.size := by obtain ⟨f, hf, _⟩ := HLR.out.2.2.recs; exact hf.lt
            have HS0 : Hid (tk = sumN (hl pt ms) k2) := HLR.out.2.1
            have HN0 : Hid (hn' = (ms k2).hn ∧ num = (ms k2).num ∧ stamp = (ms k2).stamp ∧ HA = (ms k2).HA ∧ HN = (ms k2).HN ∧ HS = (ms k2).HS) := by rw [← HMK.out]; exact ⟨rfl, rfl, rfl, rfl, rfl, rfl⟩
            have htB : tk + hn' ≤ B := by rw [HS0.out, HN0.out.1, HT.out, ← hl_some HP.out]; exact sumN_le _ hlt2
            have HLL : Hid (lk + 1 ≤ A) := by show _ ≤ _; rw [HLR.out.1, HL.out, ← liveN_some HP.out]; exact liveN_le pt hlt2
            go_upto_if 62 with (fail)
            go_cut [8] (fun al wd => al = .slice (some ⟨w.heap.size + 1, 0, none⟩) (tk + hn') B ∧ Hid (CutD w5 wd w5.heap.size (w.heap.size + 1) B tk k2 pt ms))
            case first =>
              by_cases hz : hn' = 0
              · subst hz
                go_wp2
                go_meet
                case rel => exact ⟨rfl, cutD_zero HS0.out HLR.out.2.2 HN0.out.1.symm HN0.out.2.1 HN0.out.2.2.1⟩
              · have hz' : (0 : Int) < (hn' : Int) := by omega
                have hz2 : 0 < hn' := by omega
                obtain ⟨i0, hi, hz0, hz1, _⟩ := info_parts Try.info39
                go_wp2
                rw [show (decide (0 < hn')) = true from decide_eq_true hz2]
                clear hz2 hz'
                go_loopw [8, 70] (fun al i wz => ∃ q : Nat, q ≤ hn' ∧ i = .int .i64 q ∧ al = .slice (some ⟨w.heap.size + 1, 0, none⟩) (tk + q) B ∧ Hid (LoopE (w5.alloc (.cells #[.int .i64 k2, .int .u64 num, .int .u64 stamp, .slice none 0 0] 42)).drew wz (w.heap.size + 1) B tk q k2 pt ms HA HN HS)) (fun _ i _ => hn' - (intOf i).toNat)
                case atStart => 
                  obtain ⟨f, hf, hr⟩ := HLR.out.2.2.recs
                  exact ⟨0, Nat.zero_le _, rfl, rfl, ⟨f, (hf.alloc _).drew, hr, fun i hi => by omega⟩, grownBy_refl _ _⟩
                case round =>
                  obtain ⟨q, hq, rfl, rfl, HE⟩ := hrel
                  obtain ⟨⟨f, hown, hr, h1⟩, hg⟩ := HE.out
                  by_cases hqt : q < hn'
                  · rcases HRW.out with h0 | ⟨hb, ho, rfl, hrow⟩
                    · omega
                    have hbz : Below w.heap.size w wr := ((hbe.alloc hbe.size _).drew).grown hg (by simp; omega) (by simp)
                    obtain ⟨r0, r1, r2, r3⟩ := hrow q hqt
                    have y0 := keep hbz r0
                    have y1 := keep hbz r1
                    have y2 := keep hbz r2
                    have y3 := keep hbz r3
                    have hqi : (q : Int) < (hn' : Int) := by omega
                    have HR2 : Hid _ := hr
                    have H12 : Hid _ := h1
                    have HG2 : Hid _ := hg
                    clear hrow r0 r1 r2 r3 hr h1 hg HE
                    go_wp2_with (at_builtin; refine wpList_append_Own _ rfl _ _ 40 rfl 39 i0 3 Try.underlying40 hi hz1 (w.heap.size + 1) (tk + q) B (B * 3) f rfl ((hown.alloc _).alloc _) rfl ⟨wr.heap.size + 1, 0, none⟩ 1 1 [.int .i64 (HA q), .int .u64 (HN q), .int .u64 (HS q)] rfl rfl ?c1 ?c2 ?c3 ?_)
                    case c1 =>
                      intro j u hj
                      match j, hj with
                      | 0, hj => simp at hj; subst hj; simp [Addr.add]
                      | 1, hj => simp at hj; subst hj; simp [Addr.add]
                      | 2, hj => simp at hj; subst hj; simp [Addr.add]
                    case c2 => intro u hu; simp at hu; rcases hu with rfl | rfl | rfl <;> rfl
                    case c3 => omega
                    · intro w' hO hS hB hsz
                      have HE2 : Hid _ := LoopE.mk_step HS0.out HR2.out H12.out HG2.out hO hS hB
                      clear hO hS hB hsz hown
                      go_wp2
                      go_roundw
                      case rel => exact ⟨q + 1, by omega, by go_num, by go_num, HE2⟩
                      case measure => simp [intOf]; omega
                  · have hqe : q = hn' := by omega
                    subst hqe
                    obtain ⟨g, hgo, _⟩ := ent_new w5 (.int .i64 k2) (.int .u64 num) (.int .u64 stamp) (.slice none 0 0) 42
                    have hX := hgo.drew.grown hg (by simp; omega)
                    have x3 := hX.cell (i := 3) (by omega)
                    have f3 := hX.frozen 3
                    have HE3 : Hid _ := cutD_pos (num := num) (stamp := stamp) HS0.out hz HN0.out.1 HN0.out.2.1 HN0.out.2.2.1 hgA (by rw [← HN0.out.2.2.2.1, ← HN0.out.2.2.2.2.1, ← HN0.out.2.2.2.2.2]; exact HE.out)
                    clear hown hr h1 hg HE hgo hX
                    go_wp2
                    go_meet
                    case rel => exact ⟨rfl, HE3⟩
            case rest =>
              obtain ⟨rfl, HD⟩ := hcut
              obtain ⟨fX, hX, y0, y1, y2, y3⟩ := HD.out.ent
              obtain ⟨fH, hH, hHok⟩ := HLR.out.2.2.own
              have hHd := hH.grown HD.out.grw (by simp)
              have x0 := hX.cell (i := 0) (by omega)
              have x1 := hX.cell (i := 1) (by omega)
              have x2 := hX.cell (i := 2) (by omega)
              have x3 := hX.cell (i := 3) (by omega)
              rw [y0] at x0
              rw [y1] at x1
              rw [y2] at x2
              rw [y3] at x3
              obtain ⟨i0, hi, hz0, hz1, _⟩ := info_parts Try.info42
              have HOK : Hid _ := hHok
              clear y0 y1 y2 y3 hX hH hHok
              go_wp2_with (at_builtin; refine wpList_append_Own _ rfl _ _ 30 rfl 42 i0 4 Try.underlying30 hi hz1 w.heap.size lk A (A * 4) fH rfl (hHd.alloc _) rfl ⟨wc.heap.size, 0, none⟩ 1 1 [.int .i64 k2, .int .u64 (ms k2).num, .int .u64 (ms k2).stamp, pslice (w.heap.size + 1) tk (ms k2).hn] rfl rfl ?c1 ?c2 ?c3 ?_)
              case c1 =>
                intro j u hj
                match j, hj with
                | 0, hj => simp at hj; subst hj; simp [Addr.add]
                | 1, hj => simp at hj; subst hj; simp [Addr.add]
                | 2, hj => simp at hj; subst hj; simp [Addr.add]
                | 3, hj => simp at hj; subst hj; simp [Addr.add]
              case c2 => intro u hu; simp at hu; rcases hu with rfl | rfl | rfl | rfl <;> first | rfl | exact pslice_one _ _ _
              case c3 => exact HLL.out
              · intro w' hO hS hB hsz
                have HR2 : Hid _ := LoopR.step_some HLR.out.2.2 HP.out HS0.out HLR.out.1 (Nat.le_refl _) (Nat.lt_succ_self _) HD.out HOK.out hO hS hB
                have HI2 : Hid (lk + 1 = liveN pt (k2 + 1) ∧ tk + hn' = sumN (hl pt ms) (k2 + 1)) := by rw [liveN_some HP.out, hl_some HP.out, ← HLR.out.1, ← HS0.out, ← HN0.out.1]; exact ⟨rfl, rfl⟩
                clear hO hS hB hsz hHd
                go_wp2
                go_roundw
                case rel => exact ⟨k2 + 1, by omega, by go_num, lk + 1, tk + hn', rfl, rfl, HI2.out.1, HI2.out.2, HR2.out⟩
                case measure => simp [intOf]; omega
        · clear hm1 hm2
          have hk2e : k2 = n := by omega
          have HF : Hid (ReceiptsPost w n pt ms (.returned (.slice (some ⟨w.heap.size, 0, none⟩) lk A)) wr) := by
            obtain ⟨h1, h2, h3⟩ := HLR.out
            rw [hk2e] at h1 h2 h3
            refine ⟨w.heap.size, w.heap.size + 1, ?_, Nat.le_refl _, Nat.lt_succ_self _, ?_⟩
            · rw [h1, HL.out]
            · rw [← HL.out, ← HT.out]; exact h3
          go_wp2
          go_ret
          exact HF.out

theorem zzreceipts_any (a : Option Addr) (n c : Nat) (pt : Nat → Option (Nat × Nat)) (ms : Nat → Msg) (w : World) (h : IsMs w a n pt ms) (hn : n ≤ 1048576) (hT : sumN (hl pt ms) n ≤ 1048576) :
    Calls Try.prog 10 #[.slice a n c] w fun e w' => ReceiptsPost w n pt ms e w' := by
  have H : Hid _ := h
  clear h
  go_enter Try.func10, Try.ntmps10
  go_wp2_with (go_at_call 23; refine (receipts_any a n c pt ms w H.out hn hT).mono ?_; rintro e w' ⟨gH, gA, rfl, h1, h2, h3⟩)
  go_ret
  exact ⟨gH, gA, rfl, h1, h2, h3⟩
end Go.Proofs.Qxb6605338a
