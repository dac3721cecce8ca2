/-
  Seat b6605338a. 'toMessage' (9): a message behind a pointer, copied deeply into new memory.
-/
import Derived.Test.Qxb6605338aFrom
import Derived.Test.Qxb6605338aOwn
import Derived.BigRegion
import Derived.RegionTactic
import Derived.Deep.DeepCutAuto
namespace Go.Proofs.Qxb6605338a
open Go.RowKit
set_option linter.unusedVariables false

theorem Try.info75 : (Try.prog.info? 75).map (fun i => (i.zero, i.size, i.bytes)) = some (some (.agg #[.int .i64 0, .int .i64 0, .int .i64 0]), 3, 24) := by kernel_rfl

theorem make29 (n : Nat) (hn : n ≤ 1048576) (w : World) : (Instr.makeSlice 29 (.int .i64 n) (.int .i64 n)).run Try.prog w = .ok (.slice (some ⟨w.heap.size, 0, none⟩) n n) (w.alloc (.cells (madeCells #[.int .i64 0, .int .i64 0, .int .i64 0] (n * 3)) 75)) := by
  obtain ⟨i0, hi, hz0, hz1, hz2⟩ := info_parts Try.info75
  have h := run_make (P := Try.prog) w 29 75 i0 _ Try.underlying29 hi hz0 .i64 .i64 n n (by omega) (Int.le_refl _) (by rw [hz2]; omega) (by omega)
  simpa [hz1, Value.cells] using h

theorem neq43 (w : World) (a : Option Addr) (n c n' c' : Nat) : (binOp .neq 43 (.slice a n c) (.slice none n' c')).run Try.prog w = .ok (.bool (!a.isNone)) w := run_neq_slice_nil_any w _ _ a n c n' c' Try.underlying43

theorem Try.info42 : (Try.prog.info? 42).map (fun i => (i.zero, i.size, i.bytes)) = some (some (.agg #[.int .i64 0, .int .u64 0, .int .u64 0, .slice none 0 0]), 4, 48) := by kernel_rfl
theorem Try.info39 : (Try.prog.info? 39).map (fun i => (i.zero, i.size, i.bytes)) = some (some (.agg #[.int .i64 0, .int .u64 0, .int .u64 0]), 3, 24) := by kernel_rfl
theorem make30 (n : Nat) (hn : n ≤ 1048576) (w : World) : (Instr.makeSlice 30 (.int .i64 n) (.int .i64 n)).run Try.prog w = .ok (.slice (some ⟨w.heap.size, 0, none⟩) n n) (w.alloc (.cells (madeCells #[.int .i64 0, .int .u64 0, .int .u64 0, .slice none 0 0] (n * 4)) 42)) := by
  obtain ⟨i0, hi, hz0, hz1, hz2⟩ := info_parts Try.info42
  have h := run_make (P := Try.prog) w 30 42 i0 _ Try.underlying30 hi hz0 .i64 .i64 n n (by omega) (Int.le_refl _) (by rw [hz2]; omega) (by omega)
  simpa [hz1, Value.cells] using h
theorem make40 (n : Nat) (hn : n ≤ 1048576) (w : World) : (Instr.makeSlice 40 (.int .i64 n) (.int .i64 n)).run Try.prog w = .ok (.slice (some ⟨w.heap.size, 0, none⟩) n n) (w.alloc (.cells (madeCells #[.int .i64 0, .int .u64 0, .int .u64 0] (n * 3)) 39)) := by
  obtain ⟨i0, hi, hz0, hz1, hz2⟩ := info_parts Try.info39
  have h := run_make (P := Try.prog) w 40 39 i0 _ Try.underlying40 hi hz0 .i64 .i64 n n (by omega) (Int.le_refl _) (by rw [hz2]; omega) (by omega)
  simpa [hz1, Value.cells] using h
theorem neq44 (w : World) (a : Option Addr) (n c n' c' : Nat) : (binOp .neq 44 (.slice a n c) (.slice none n' c')).run Try.prog w = .ok (.bool (!a.isNone)) w := run_neq_slice_nil_any w _ _ a n c n' c' Try.underlying44
theorem neq70 (w : World) (a : Option Addr) (n c n' c' : Nat) : (binOp .neq 70 (.slice a n c) (.slice none n' c')).run Try.prog w = .ok (.bool (!a.isNone)) w := run_neq_slice_nil_any w _ _ a n c n' c' Try.underlying70

/-- Where the ways through 'if m.Status != nil' meet. -/
structure CutA (w wc : World) (sa sa' : Option Addr) (sn : Nat) (SA SR SP : Nat → Int) : Prop where
  nil : sa' = none ↔ sa = none
  row : Row3 .i64 .i64 .i64 wc sa' sn SA SR SP
  blk : ∀ x, sa' = some x → w.heap.size < x.block ∧ x.block < wc.heap.size
  res : ∃ f, Own wc w.heap.size 10 33 f
  bel : Below w.heap.size w wc

/-- Where the ways through 'if m.Heard != nil' meet. -/
structure CutB (wc wd : World) (ha ha' : Option Addr) (hn : Nat) (HA HN HS : Nat → Int) (pa pa' : Nat → Option Addr) (pn : Nat → Nat) (PA PN PS : Nat → Nat → Int) : Prop where
  nil : ha' = none ↔ ha = none
  row : Row4 wd ha' hn HA HN HS pa' pn pn
  ps : ∀ i, i < hn → (pa' i = none ↔ pa i = none) ∧ Row3 .i64 .u64 .u64 wd (pa' i) (pn i) (PA i) (PN i) (PS i)
  blk : ∀ x, ha' = some x → wc.heap.size ≤ x.block
  pblk : ∀ i, i < hn → ∀ x, pa' i = some x → wc.heap.size ≤ x.block
  bel : Below wc.heap.size wc wd

/-- The loop over the heard entries, k of them done. -/
structure LoopB (wc wr : World) (k hn : Nat) (HA HN HS : Nat → Int) (pa pa' : Nat → Option Addr) (pn : Nat → Nat) (PA PN PS : Nat → Nat → Int) : Prop where
  own : ∃ f, Own wr wc.heap.size (hn * 4) 42 f ∧ Done4 f k HA HN HS pa' pn pn
  ps : ∀ i, i < k → (pa' i = none ↔ pa i = none) ∧ Row3 .i64 .u64 .u64 wr (pa' i) (pn i) (PA i) (PN i) (PS i)
  pblk : ∀ i, i < k → ∀ x, pa' i = some x → wc.heap.size < x.block ∧ x.block < wr.heap.size
  bel : Below wc.heap.size wc wr

/-- Where the ways through 'if h.Passed != nil' meet. -/
structure CutC (w1 wz : World) (p p' : Option Addr) (n : Nat) (A N S : Nat → Int) : Prop where
  nil : p' = none ↔ p = none
  row : Row3 .i64 .u64 .u64 wz p' n A N S
  blk : ∀ x, p' = some x → w1.heap.size ≤ x.block ∧ x.block < wz.heap.size
  bel : Below w1.heap.size w1 wz

/-- The loop over the receipts passed on. -/
structure LoopC (w1 wz : World) (q n : Nat) (A N S : Nat → Int) : Prop where
  own : ∃ f, Own wz w1.heap.size (n * 3) 39 f ∧ Done3 .i64 .u64 .u64 f q A N S
  bel : Below w1.heap.size w1 wz
theorem LoopC.step {w1 wz : World} {q n : Nat} {A N S : Nat → Int} (h : LoopC w1 wz q n A N S) {g : Nat} (hg : g = w1.heap.size) : LoopC w1 (((wz.setCell ⟨g, q * 3, none⟩ (.int .i64 (A q))).setCell ⟨g, q * 3 + 1, none⟩ (.int .u64 (N q))).setCell ⟨g, q * 3 + 2, none⟩ (.int .u64 (S q))).drew (q + 1) n A N S := by
  subst hg
  obtain ⟨⟨f, h1, h2⟩, h3⟩ := h
  exact ⟨⟨_, (h1.set3 _ _ _ _).drew, h2.step⟩, (below3 h3 (Nat.le_refl _) _ _ _ _).drew⟩

theorem LoopB.step {wc w5 wz : World} {k hn : Nat} {HA HN HS : Nat → Int} {pa pa' : Nat → Option Addr} {pn pc : Nat → Nat} {PA PN PS : Nat → Nat → Int} {p' : Option Addr} (h : LoopB wc w5 k hn HA HN HS pa pa' pn PA PN PS)
    (hC : CutC (w5.alloc (.cells #[.int .i64 (HA k), .int .u64 (HN k), .int .u64 (HS k), .slice (pa k) (pn k) (pc k)] 72)) wz (pa k) p' (pn k) (PA k) (PN k) (PS k)) :
    ∃ pa2, LoopB wc ((((wz.setCell ⟨wc.heap.size, k * 4, none⟩ (.int .i64 (HA k))).setCell ⟨wc.heap.size, k * 4 + 1, none⟩ (.int .u64 (HN k))).setCell ⟨wc.heap.size, k * 4 + 2, none⟩ (.int .u64 (HS k))).setCell ⟨wc.heap.size, k * 4 + 3, none⟩ (.slice p' (pn k) (pn k))) (k + 1) hn HA HN HS pa pa2 pn PA PN PS := by
  obtain ⟨⟨f, hown, hdone⟩, hps, hpb, hbel⟩ := h
  obtain ⟨cnil, crow, cblk, cbel⟩ := hC
  have hsz : (w5.alloc (.cells #[.int .i64 (HA k), .int .u64 (HN k), .int .u64 (HS k), .slice (pa k) (pn k) (pc k)] 72)).heap.size = w5.heap.size + 1 := by simp
  rw [hsz] at cblk cbel
  have hlt := hown.lt
  have b1 : Below w5.heap.size w5 wz := ((Below.refl _ _).alloc (Nat.le_refl _) _).trans (cbel.mono (by omega))
  have hown2 := hown.keep b1 hlt
  have hsame : ∀ v3, SameBut wc.heap.size wz ((((wz.setCell ⟨wc.heap.size, k * 4, none⟩ (.int .i64 (HA k))).setCell ⟨wc.heap.size, k * 4 + 1, none⟩ (.int .u64 (HN k))).setCell ⟨wc.heap.size, k * 4 + 2, none⟩ (.int .u64 (HS k))).setCell ⟨wc.heap.size, k * 4 + 3, none⟩ v3) := fun v3 => ((((SameBut.refl _ _).set _ _).set _ _).set _ _).set _ _
  have hsize : ∀ v3, ((((wz.setCell ⟨wc.heap.size, k * 4, none⟩ (.int .i64 (HA k))).setCell ⟨wc.heap.size, k * 4 + 1, none⟩ (.int .u64 (HN k))).setCell ⟨wc.heap.size, k * 4 + 2, none⟩ (.int .u64 (HS k))).setCell ⟨wc.heap.size, k * 4 + 3, none⟩ v3).heap.size = wz.heap.size := fun v3 => by simp [World.setCell]
  refine ⟨fun i => if i = k then p' else pa' i, ⟨_, ?_, hdone.step (pa' := fun i => if i = k then p' else pa' i) (pn' := pn) (pc' := pn) (fun i hi => ⟨if_neg (by omega), rfl, rfl⟩)⟩, ?_, ?_, ?_⟩
  · have := hown2.set4 (k * 4) (.int .i64 (HA k)) (.int .u64 (HN k)) (.int .u64 (HS k)) (.slice p' (pn k) (pn k))
    simpa using this
  · intro i hi
    by_cases e : i = k
    · subst e
      simp only [if_true]
      exact ⟨cnil, crow.same (hsame _) (fun x hx => by have := (cblk x hx).1; omega)⟩
    · simp only [e, if_false]
      have hi' : i < k := by omega
      refine ⟨(hps i hi').1, Row3.same (hsame _) (fun x hx => ?_) ((hps i hi').2.keepB b1 (fun x hx => (hpb i hi' x hx).2))⟩
      have := (hpb i hi' x hx).1; omega
  · intro i hi x hx
    rw [hsize]
    by_cases e : i = k
    · subst e
      simp only [if_true] at hx
      have := cblk x hx; omega
    · simp only [e, if_false] at hx
      have := hpb i (by omega) x hx
      have := b1.size
      omega
  · exact below4 (hbel.trans (b1.mono hbel.size)) (Nat.le_refl _) _ _ _ _ _

/-- What toMessage leaves: the same message, its rows in new memory. -/
structure MsgOut (w w' : World) (m : Msg) (sa' ha' : Option Addr) (pa' : Nat → Option Addr) : Prop where
  rows : Rows2 w' { m with sa := sa', sc := m.sn, ha := ha', hc := m.hn, pa := pa', pc := m.pn }
  snil : sa' = none ↔ m.sa = none
  hnil : ha' = none ↔ m.ha = none
  pnil : ∀ i, i < m.hn → (pa' i = none ↔ m.pa i = none)
  sblk : ∀ x, sa' = some x → w.heap.size < x.block
  hblk : ∀ x, ha' = some x → w.heap.size < x.block
  pblk : ∀ i, i < m.hn → ∀ x, pa' i = some x → w.heap.size < x.block
  bel : Below w.heap.size w w'

def ToMsgPost (w : World) (m : Msg) (e : Ending) (w' : World) : Prop :=
  ∃ sa' ha' pa', e = .returned (.agg #[.int .i64 m.frm, .int .i64 m.dst, .int .i64 m.rnd, .int .u64 m.num, .string m.val, .int .u64 m.stamp, .slice none 0 0, .slice sa' m.sn m.sn, .slice ha' m.hn m.hn, .slice none 0 0]) ∧ MsgOut w w' m sa' ha' pa'

theorem msgOut_of {w w4 wc w' : World} {frm dst rnd num stamp : Int} {val : ByteArray} {sa sa' ha ha' : Option Addr} {sn sc hn hc : Nat} {SA SR SP HA HN HS : Nat → Int} {pa pa' : Nat → Option Addr} {pn pc : Nat → Nat} {PA PN PS : Nat → Nat → Int}
    (hA : CutA w w4 sa sa' sn SA SR SP) (hB : CutB w4 wc ha ha' hn HA HN HS pa pa' pn PA PN PS) (hs : SameBut w.heap.size wc w') (hbe : Below w.heap.size w w') :
    MsgOut w w' ⟨frm, dst, rnd, num, val, stamp, sa, sn, sc, SA, SR, SP, ha, hn, hc, HA, HN, HS, pa, pn, pc, PA, PN, PS⟩ sa' ha' pa' := by
  have hlt : w.heap.size < w4.heap.size := by obtain ⟨f, hf⟩ := hA.res; exact hf.lt
  refine ⟨⟨?_, ?_, ?_⟩, hA.nil, hB.nil, fun i hi => (hB.ps i hi).1, fun x hx => (hA.blk x hx).1, fun x hx => by have := hB.blk x hx; omega, fun i hi x hx => by have := hB.pblk i hi x hx; omega, hbe⟩
  · exact (hA.row.keepB hB.bel (fun x hx => (hA.blk x hx).2)).same hs (fun x hx => by have := (hA.blk x hx).1; omega)
  · exact hB.row.same hs (fun x hx => by have := hB.blk x hx; omega)
  · exact fun i hi => (hB.ps i hi).2.same hs (fun x hx => by have := hB.pblk i hi x hx; omega)

set_option maxRecDepth 100000 in
set_option maxHeartbeats 4000000 in
theorem toMsg (b o : Nat) (m : Msg) (w : World) (h : IsMsg w b o m) (hsn : m.sn ≤ 1048576) (hhn : m.hn ≤ 1048576) (hpn : ∀ i, i < m.hn → m.pn i ≤ 1048576) :
    Calls Try.prog 9 #[.pointer (some ⟨b, o, none⟩)] w fun e w' => ToMsgPost w m e w' := by
  obtain ⟨c0, c1, c2, c3, c4, c5, c6, c7, rows, vl, sh, hh, ph⟩ := h
  have hbl := World.block_lt_of_cell? w _ c0
  obtain ⟨frm, dst, rnd, num, val, stamp, sa, sn, sc, SA, SR, SP, ha, hn, hc, HA, HN, HS, pa, pn, pc, PA, PN, PS⟩ := m
  obtain ⟨st, hd, ps⟩ := rows
  dsimp only at *
  have HST : Hid _ := st
  have HHD : Hid _ := hd
  have HPS : Hid _ := ps
  clear st hd ps
  have q1 := neq43
  go_enter Try.func9, Try.ntmps9
  go_upto_if 14 with (fail)
  go_cut [3] (fun s3 wc => ∃ sa', s3 = .slice sa' sn sn ∧ CutA w wc sa sa' sn SA SR SP)
  case first =>
    match sa with
    | none =>
      obtain ⟨_, _, hs0⟩ := sh
      obtain ⟨rfl, _⟩ := hs0 rfl
      go_wp2
      go_meet
      case rel => exact ⟨none, rfl, by simp, .inl rfl, by simp, Own.new' w _ _ rfl, (Below.refl _ _).alloc (Nat.le_refl _) _⟩
    | some x =>
      have hmk := make29 sn hsn
      go_wp2
      go_loopw [4] (fun i wr => ∃ k : Nat, k ≤ sn ∧ i = .int .i64 k ∧ Hid ((∃ f, Own wr w.heap.size 10 33 f) ∧ (∃ f, Own wr (w.heap.size + 1) (sn * 3) 75 f ∧ Done3 .i64 .i64 .i64 f k SA SR SP) ∧ Below w.heap.size w wr)) (fun i _ => sn - (intOf i).toNat)
      case atStart => 
        refine ⟨0, Nat.zero_le _, rfl, ?_, ?_, ?_⟩
        · obtain ⟨f, hf⟩ := Own.new' w #[.int .i64 0, .int .i64 0, .int .i64 0, .int .u64 0, .string { data := #[] }, .int .u64 0, .slice none 0 0, .slice none 0 0, .slice none 0 0, .slice none 0 0] 33 (N := 10) rfl
          exact ⟨f, hf.alloc _⟩
        · obtain ⟨f, hf⟩ := Own.new' (w.alloc (.cells #[.int .i64 0, .int .i64 0, .int .i64 0, .int .u64 0, .string { data := #[] }, .int .u64 0, .slice none 0 0, .slice none 0 0, .slice none 0 0, .slice none 0 0] 33)) (madeCells #[.int .i64 0, .int .i64 0, .int .i64 0] (sn * 3)) 75 (N := sn * 3) (size_madeCells _ _)
          exact ⟨f, by simpa using hf, fun i hi => by omega⟩
        · exact ((Below.refl _ _).alloc (Nat.le_refl _) _).alloc (by simp) _
      case round =>
        obtain ⟨k, hk, rfl, HR⟩ := hrel
        obtain ⟨⟨fr, hres⟩, ⟨f, hown, hdone⟩, hbe⟩ := HR.out
        clear HR
        have d6 := keep hbe c6
        by_cases hlt : k < sn
        · rcases HST.out with h0 | ⟨sb, so, hsa, hrow⟩
          · omega
          simp only [Option.some.injEq] at hsa
          subst hsa
          obtain ⟨r0, r1, r2⟩ := hrow k hlt
          have hli : (k : Int) < (sn : Int) := by omega
          have e0 := keep hbe r0
          have e1 := keep hbe r1
          have e2 := keep hbe r2
          have x0 := hown.cell (i := k * 3) (by omega)
          have x1 := hown.cell (i := k * 3 + 1) (by omega)
          have x2 := hown.cell (i := k * 3 + 2) (by omega)
          have f0 := hown.frozen (k * 3)
          have f1 := hown.frozen (k * 3 + 1)
          have f2 := hown.frozen (k * 3 + 2)
          have HR : Hid ((∃ f, Own (((wr.setCell ⟨w.heap.size + 1, k * 3, none⟩ (.int .i64 (SA k))).setCell ⟨w.heap.size + 1, k * 3 + 1, none⟩ (.int .i64 (SR k))).setCell ⟨w.heap.size + 1, k * 3 + 2, none⟩ (.int .i64 (SP k))).drew w.heap.size 10 33 f) ∧
              (∃ f, Own (((wr.setCell ⟨w.heap.size + 1, k * 3, none⟩ (.int .i64 (SA k))).setCell ⟨w.heap.size + 1, k * 3 + 1, none⟩ (.int .i64 (SR k))).setCell ⟨w.heap.size + 1, k * 3 + 2, none⟩ (.int .i64 (SP k))).drew (w.heap.size + 1) (sn * 3) 75 f ∧ Done3 .i64 .i64 .i64 f (k + 1) SA SR SP) ∧ 
              Below w.heap.size w (((wr.setCell ⟨w.heap.size + 1, k * 3, none⟩ (.int .i64 (SA k))).setCell ⟨w.heap.size + 1, k * 3 + 1, none⟩ (.int .i64 (SR k))).setCell ⟨w.heap.size + 1, k * 3 + 2, none⟩ (.int .i64 (SP k))).drew) :=
            ⟨⟨fr, (hres.set3_ne (by omega) _ _ _ _).drew⟩, ⟨_, (hown.set3 _ _ _ _).drew, hdone.step⟩, (below3 hbe (by omega) _ _ _ _).drew⟩
          clear hrow r0 r1 r2 hmk q1 hpn ph hown hdone hbe hres c0 c1 c2 c3 c4 c5 c6 c7
          go_wp2
          go_region
          go_wp2
          go_roundw
          case rel => exact ⟨k + 1, by omega, by go_num, HR⟩
          case measure => simp [intOf]; omega
        · clear hmk q1
          go_wp2
          go_meet
          case rel =>
            have e : k = sn := by omega
            rw [e] at hdone
            refine ⟨_, rfl, by simp, hdone.row hown, ?_, ⟨fr, hres⟩, hbe⟩
            intro y hy
            simp at hy
            subst hy
            exact ⟨by simp, hown.lt⟩
  case rest =>
    obtain ⟨sa', rfl, HA0⟩ := hcut
    obtain ⟨w4, h4⟩ : ∃ x, x = wc := ⟨_, rfl⟩
    subst h4
    have hbeA := HA0.bel
    have HA1 : Hid _ := HA0
    clear HA0
    have d7 := keep hbeA c7
    clear q1
    have q2 := neq44
    go_upto_if 62 with (fail)
    go_cut [5] (fun s5 wd => ∃ ha' pa', s5 = .slice ha' hn hn ∧ CutB w4 wd ha ha' hn HA HN HS pa pa' pn PA PN PS)
    case first =>
      match ha with
      | none =>
        obtain ⟨_, _, hh0⟩ := hh
        obtain ⟨rfl, _⟩ := hh0 rfl
        go_wp2
        go_meet
        case rel => exact ⟨none, fun _ => none, rfl, by simp, .inl rfl, fun i hi => by omega, by simp, fun i hi => by omega, Below.refl _ _⟩
      | some x =>
        have hmk := make30 hn hhn
        go_wp2
        go_loopw [6] (fun i wr => ∃ k : Nat, k ≤ hn ∧ i = .int .i64 k ∧ ∃ pa', Hid (LoopB w4 wr k hn HA HN HS pa pa' pn PA PN PS)) (fun i _ => hn - (intOf i).toNat)
        case atStart =>
          refine ⟨0, Nat.zero_le _, rfl, fun _ => none, ?_⟩
          obtain ⟨f, hf⟩ := Own.new' w4 (madeCells #[.int .i64 0, .int .u64 0, .int .u64 0, .slice none 0 0] (hn * 4)) 42 (N := hn * 4) (size_madeCells _ _)
          exact ⟨⟨f, hf, fun i hi => by omega⟩, fun i hi => by omega, fun i hi => by omega, (Below.refl _ _).alloc (Nat.le_refl _) _⟩
        case round =>
          obtain ⟨k, hk, rfl, pa', HR⟩ := hrel
          obtain ⟨w5, h5⟩ : ∃ x, x = wr := ⟨_, rfl⟩
          subst h5
          have hbe := hbeA.trans (HR.out.bel.mono hbeA.size)
          have d7' := keep hbe c7
          clear d7
          by_cases hlt : k < hn
          · rcases HHD.out with h0 | ⟨sb, so, hsa, hrow⟩
            · omega
            simp only [Option.some.injEq] at hsa
            subst hsa
            obtain ⟨r0, r1, r2, r3⟩ := hrow k hlt
            have hli : (k : Int) < (hn : Int) := by omega
            have e0 := keep hbe r0
            have e1 := keep hbe r1
            have e2 := keep hbe r2
            have e3 := keep hbe r3
            have hpl := hpn k hlt
            have hph := ph k hlt
            have HPK : Hid _ := HPS.out k hlt
            clear hrow r0 r1 r2 r3 hmk q2 c0 c1 c2 c3 c4 c5 c6 c7 hpn ph HPS
            obtain ⟨P0, hP0⟩ : ∃ P0, P0 = pa k := ⟨_, rfl⟩
            rw [← hP0] at e3 hph HPK
            have HP0 : Hid (P0 = pa k) := hP0
            clear hP0
            have q3 := neq70
            go_upto_if 87 with (fail)
            go_cut [8] (fun s8 wz => ∃ p', s8 = .slice p' (pn k) (pn k) ∧ CutC (w5.alloc (.cells #[.int .i64 (HA k), .int .u64 (HN k), .int .u64 (HS k), .slice P0 (pn k) (pc k)] 72)) wz P0 p' (pn k) (PA k) (PN k) (PS k))
            case first =>
              match P0 with
              | none =>
                obtain ⟨hz1, hz2, hz3⟩ := hph
                obtain ⟨hz, _⟩ := hz3 rfl
                have HZ : Hid (pn k = 0) := hz
                clear hz hz3
                go_wp2
                go_meet
                case rel => exact ⟨none, by rw [HZ.out], by simp, .inl HZ.out, by simp, Below.refl _ _⟩
              | some y =>
                have hmk := make40 (pn k) hpl
                go_wp2
                go_loopw [9] (fun i wz => ∃ q : Nat, q ≤ pn k ∧ i = .int .i64 q ∧ Hid (LoopC (w5.alloc (.cells #[.int .i64 (HA k), .int .u64 (HN k), .int .u64 (HS k), .slice (some y) (pn k) (pc k)] 72)) wz q (pn k) (PA k) (PN k) (PS k))) (fun i _ => pn k - (intOf i).toNat)
                case atStart =>
                  refine ⟨0, Nat.zero_le _, rfl, ?_⟩
                  obtain ⟨f, hf⟩ := Own.new' (w5.alloc (.cells #[.int .i64 (HA k), .int .u64 (HN k), .int .u64 (HS k), .slice (some y) (pn k) (pc k)] 72)) (madeCells #[.int .i64 0, .int .u64 0, .int .u64 0] (pn k * 3)) 39 (N := pn k * 3) (size_madeCells _ _)
                  exact ⟨⟨f, hf, fun i hi => by omega⟩, (Below.refl _ _).alloc (Nat.le_refl _) _⟩
                case round =>
                  obtain ⟨q, hq, rfl, HC⟩ := hrel
                  obtain ⟨⟨f, hown, hdone⟩, hbeC⟩ := HC.out
                  have hlt2 : w5.heap.size < (w5.alloc (.cells #[.int .i64 (HA k), .int .u64 (HN k), .int .u64 (HS k), .slice (some y) (pn k) (pc k)] 72)).heap.size := by simp
                  have z3 : wr.cell? ⟨w5.heap.size, 3, none⟩ = some (.slice (some y) (pn k) (pc k)) := by
                    rw [hbeC.cell (p := ⟨w5.heap.size, 3, none⟩) hlt2]; simp
                  by_cases hqt : q < pn k
                  · rcases HPK.out with h0 | ⟨sb2, so2, hsa2, hrow⟩
                    · omega
                    simp only [Option.some.injEq] at hsa2
                    subst hsa2
                    obtain ⟨r0, r1, r2⟩ := hrow q hqt
                    have hbe5 : Below w.heap.size w wr := hbe.trans (((Below.refl _ _).alloc (Nat.le_refl _) _).trans (hbeC.mono (by simp)) |>.mono hbe.size)
                    have y0 := keep hbe5 r0
                    have y1 := keep hbe5 r1
                    have y2 := keep hbe5 r2
                    have hli2 : (q : Int) < (pn k : Int) := by omega
                    simp only [World.size_alloc] at hown
                    have x0 := hown.cell (i := q * 3) (by omega)
                    have x1 := hown.cell (i := q * 3 + 1) (by omega)
                    have x2 := hown.cell (i := q * 3 + 2) (by omega)
                    have f0 := hown.frozen (q * 3)
                    have f1 := hown.frozen (q * 3 + 1)
                    have f2 := hown.frozen (q * 3 + 2)
                    have HS2 : Hid _ := HC.out.step (g := w5.heap.size + 1) (by simp)
                    clear hrow r0 r1 r2 hmk q3 hown hdone hbeC hbe5 e0 e1 e2 e3 d7'
                    go_wp2
                    go_region
                    go_wp2
                    go_roundw
                    case rel => exact ⟨q + 1, by omega, by go_num, HS2⟩
                    case measure => simp [intOf]; omega
                  · clear hmk q3
                    go_wp2
                    go_meet
                    case rel =>
                      have e : q = pn k := by omega
                      rw [e] at hdone
                      refine ⟨_, rfl, by simp, ?_, ?_, hbeC⟩
                      · simp only [World.size_alloc] at hown
                        exact hdone.row hown
                      · intro x hx
                        simp at hx
                        subst hx
                        exact ⟨by simp, by have := hown.lt; simpa using this⟩
            case rest =>
              obtain ⟨p', rfl, hC⟩ := hcut
              have hlt2 : w5.heap.size < (w5.alloc (.cells #[.int .i64 (HA k), .int .u64 (HN k), .int .u64 (HS k), .slice P0 (pn k) (pc k)] 72)).heap.size := by simp
              have z0 : wc.cell? ⟨w5.heap.size, 0, none⟩ = some (.int .i64 (HA k)) := by rw [hC.bel.cell (p := ⟨w5.heap.size, 0, none⟩) hlt2]; simp
              have z1 : wc.cell? ⟨w5.heap.size, 1, none⟩ = some (.int .u64 (HN k)) := by rw [hC.bel.cell (p := ⟨w5.heap.size, 1, none⟩) hlt2]; simp
              have z2 : wc.cell? ⟨w5.heap.size, 2, none⟩ = some (.int .u64 (HS k)) := by rw [hC.bel.cell (p := ⟨w5.heap.size, 2, none⟩) hlt2]; simp
              rw [HP0.out] at hC
              obtain ⟨pa2, HL⟩ := LoopB.step HR.out hC
              have HL2 : Hid _ := HL
              have hown := HR.out.own
              obtain ⟨f, hown, _⟩ := hown
              have hown2 := (hown.alloc (.cells #[.int .i64 (HA k), .int .u64 (HN k), .int .u64 (HS k), .slice (pa k) (pn k) (pc k)] 72)).keep hC.bel (by have := hown.lt; simp; omega)
              have x0 := hown2.cell (i := k * 4) (by omega)
              have x1 := hown2.cell (i := k * 4 + 1) (by omega)
              have x2 := hown2.cell (i := k * 4 + 2) (by omega)
              have x3 := hown2.cell (i := k * 4 + 3) (by omega)
              have f0 := hown2.frozen (k * 4)
              have f1 := hown2.frozen (k * 4 + 1)
              have f2 := hown2.frozen (k * 4 + 2)
              have f3 := hown2.frozen (k * 4 + 3)
              clear hown hown2 HL hC e0 e1 e2 e3 d7' q3
              go_wp2
              go_roundw
              case rel => exact ⟨k + 1, by omega, by go_num, pa2, HL2⟩
              case measure => simp [intOf]; omega
          · clear hmk q2
            go_wp2
            go_meet
            case rel =>
              obtain ⟨⟨f, hown, hdone⟩, hps, hpb, hb5⟩ := HR.out
              have e : k = hn := by omega
              rw [e] at hdone hps hpb
              refine ⟨_, pa', rfl, by simp, hdone.row hown, hps, ?_, fun i hi x hx => Nat.le_of_lt (hpb i hi x hx).1, hb5⟩
              intro x hx
              simp at hx
              subst hx
              exact Nat.le_refl _
    case rest =>
      obtain ⟨ha', pa', rfl, hB⟩ := hcut
      have hbe : Below w.heap.size w wc := hbeA.trans (hB.bel.mono hbeA.size)
      obtain ⟨f, hown4⟩ := HA1.out.res
      have hown := hown4.keep hB.bel hown4.lt
      have d0 := keep hbe c0
      have d1 := keep hbe c1
      have d2 := keep hbe c2
      have d3 := keep hbe c3
      have d4 := keep hbe c4
      have d5 := keep hbe c5
      have x0 := hown.cell (i := 0) (by omega)
      have x1 := hown.cell (i := 1) (by omega)
      have x2 := hown.cell (i := 2) (by omega)
      have x3 := hown.cell (i := 3) (by omega)
      have x4 := hown.cell (i := 4) (by omega)
      have x5 := hown.cell (i := 5) (by omega)
      have x6 := hown.cell (i := 6) (by omega)
      have x7 := hown.cell (i := 7) (by omega)
      have x8 := hown.cell (i := 8) (by omega)
      have x9 := hown.cell (i := 9) (by omega)
      have f0 := hown.frozen 0
      have f1 := hown.frozen 1
      have f2 := hown.frozen 2
      have f3 := hown.frozen 3
      have f4 := hown.frozen 4
      have f5 := hown.frozen 5
      have f6 := hown.frozen 6
      have f7 := hown.frozen 7
      have f8 := hown.frozen 8
      have f9 := hown.frozen 9
      have HBB : Hid _ := hB
      have HBE : Hid _ := hbe
      clear hown hown4 hB hbe c0 c1 c2 c3 c4 c5 c6 c7 d7 q2 hpn ph
      go_wp2
      go_region
      go_wp2
      refine bodyPost_ret (v := .agg #[.int .i64 frm, .int .i64 dst, .int .i64 rnd, .int .u64 num, .string val, .int .u64 stamp, .slice none 0 0, .slice sa' sn sn, .slice ha' hn hn, .slice none 0 0]) ?_ rfl ?_
      · simp [results, Try.results9, go_sem, *]
      · exact ⟨sa', ha', pa', rfl, msgOut_of HA1.out HBB.out ((((((((((((SameBut.refl _ _).set _ _).set _ _).set _ _).set _ _).set _ _).set _ _).set _ _).set _ _).set _ _).set _ _).drew) ((((((((((((HBE.out).setCell (Nat.le_refl _) _).setCell (Nat.le_refl _) _).setCell (Nat.le_refl _) _).setCell (Nat.le_refl _) _).setCell (Nat.le_refl _) _).setCell (Nat.le_refl _) _).setCell (Nat.le_refl _) _).setCell (Nat.le_refl _) _).setCell (Nat.le_refl _) _).setCell (Nat.le_refl _) _).drew)⟩
end Go.Proofs.Qxb6605338a
