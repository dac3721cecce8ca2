/-
  Seat b6605338a. The walk of 'FnReceiptsExact' (3).
-/
import Derived.Test.Qxb6605338aCkr
namespace Go.Proofs.Qxb6605338a
open Go.RowKit
set_option linter.unusedVariables false

theorem Try.info35 : (Try.prog.info? 35).map (fun i => (i.zero, i.size, i.bytes)) = some (some (.pointer none), 1, 8) := by kernel_rfl
theorem make25 (n : Nat) (hn : n ≤ 1048576) (w : World) : (Instr.makeSlice 25 (.int .i64 n) (.int .i64 n)).run Try.prog w = .ok (.slice (some ⟨w.heap.size, 0, none⟩) n n) (w.alloc (.cells (madeCells #[.pointer none] n) 35)) := by
  obtain ⟨i0, hi, hz0, hz1, hz2⟩ := info_parts Try.info35
  have h := run_make (P := Try.prog) w 25 35 i0 _ Try.underlying25 hi hz0 .i64 .i64 n n (by omega) (Int.le_refl _) (by rw [hz2]; omega) (by omega)
  simpa [hz1, Value.cells] using h

/-- The same message, as far as 'receipts' and 'checkReceipts' look. -/
def SameM (m m' : Msg) : Prop := m'.num = m.num ∧ m'.stamp = m.stamp ∧ m'.hn = m.hn ∧ m'.HA = m.HA ∧ m'.HN = m.HN ∧ m'.HS = m.HS

/-- The loop that makes the messages, k of them done. -/
structure LoopM (w wr : World) (g n k : Nat) (pt : Nat → Option (Nat × Nat)) (ms : Nat → Msg) (pt' : Nat → Option (Nat × Nat)) (ms' : Nat → Msg) : Prop where
  own : ∃ f, Own wr g n 35 f ∧ (∀ j, j < n → f j = ptrV (pt' j))
  out : ∀ j, k ≤ j → pt' j = none
  same : ∀ j, j < k → (pt' j).isSome = (pt j).isSome ∧ SameM (ms j) (ms' j)
  msg : ∀ j, j < k → ∀ x, pt' j = some x → MC wr x.1 x.2 (ms' j) ∧ x.1 ≠ g ∧ ∀ y, (ms' j).ha = some y → y.block ≠ g
  bel : Below w.heap.size w wr

theorem MC.keep {W w' : World} (hb : Below W.heap.size W w') {b o : Nat} {m : Msg} (h : MC W b o m) : MC w' b o m :=
  ⟨Qxb6605338a.keep hb h.c3, Qxb6605338a.keep hb h.c5, Qxb6605338a.keep hb h.c8, h.hd.keep hb⟩
theorem MC.same {g : Nat} {W w' : World} (hs : SameBut g W w') {b o : Nat} {m : Msg} (h : MC W b o m) (hb : b ≠ g) (hh : ∀ y, m.ha = some y → y.block ≠ g) : MC w' b o m := by
  have e : ∀ o', w'.cell? ⟨b, o', none⟩ = W.cell? ⟨b, o', none⟩ := fun o' => World.cell?_of_block (w := W) (hs b hb)
  exact ⟨by rw [e]; exact h.c3, by rw [e]; exact h.c5, by rw [e]; exact h.c8, h.hd.same hs hh⟩

theorem LoopM.step_none {w wr : World} {g n k : Nat} {pt pt' : Nat → Option (Nat × Nat)} {ms ms' : Nat → Msg} (h : LoopM w wr g n k pt ms pt' ms') (hp : pt k = none) : ∃ ms2, LoopM w wr g n (k + 1) pt ms pt' ms2 := by
  obtain ⟨h1, h2, h3, h4, h5⟩ := h
  refine ⟨fun j => if j = k then ms k else ms' j, h1, fun j hj => h2 j (by omega), fun j hj => ?_, fun j hj x hx => ?_, h5⟩
  · by_cases e : j = k
    · subst e; rw [if_pos rfl, h2 j (Nat.le_refl _), hp]; exact ⟨rfl, rfl, rfl, rfl, rfl, rfl, rfl⟩
    · rw [if_neg e]; exact h3 j (by omega)
  · by_cases e : j = k
    · subst e; rw [h2 j (Nat.le_refl _)] at hx; cases hx
    · rw [if_neg e]; exact h4 j (by omega) x hx

theorem LoopM.step_some {w wr w' : World} {g n k : Nat} {pt pt' : Nat → Option (Nat × Nat)} {ms ms' : Nat → Msg} {x : Nat × Nat} {sa' ha' : Option Addr} {pa' : Nat → Option Addr} {i0 i1 i2 : Int} {vv : ByteArray} (h : LoopM w wr g n k pt ms pt' ms') (hp : pt k = some x) (hk : k < n) (hg : w.heap.size ≤ g) (hout : MsgOut wr w' (ms k) sa' ha' pa') :
    ∃ pt2 ms2, LoopM w ((w'.alloc (.cells #[.int .i64 i0, .int .i64 i1, .int .i64 i2, .int .u64 (ms k).num, .string vv, .int .u64 (ms k).stamp, .slice none 0 0, .slice sa' (ms k).sn (ms k).sn, .slice ha' (ms k).hn (ms k).hn, .slice none 0 0] 33)).setCell ⟨g, k, none⟩ (.pointer (some ⟨w'.heap.size, 0, none⟩))) g n (k + 1) pt ms pt2 ms2 := by
  obtain ⟨⟨f, hf, hff⟩, h2, h3, h4, h5⟩ := h
  have hgl := hf.lt
  have hb := hout.bel
  generalize hO : (Obj.cells #[.int .i64 i0, .int .i64 i1, .int .i64 i2, .int .u64 (ms k).num, .string vv, .int .u64 (ms k).stamp, .slice none 0 0, .slice sa' (ms k).sn (ms k).sn, .slice ha' (ms k).hn (ms k).hn, .slice none 0 0] 33) = O
  have hb2 : Below wr.heap.size wr (w'.alloc O) := hb.alloc hb.size O
  have hsame : SameBut g (w'.alloc O) ((w'.alloc O).setCell ⟨g, k, none⟩ (.pointer (some ⟨w'.heap.size, 0, none⟩))) := (SameBut.refl _ _).set _ _
  have hw' := hb.size
  refine ⟨fun j => if j = k then some (w'.heap.size, 0) else pt' j, fun j => if j = k then { ms k with sa := sa', sc := (ms k).sn, ha := ha', hc := (ms k).hn, pa := pa', pc := (ms k).pn } else ms' j, ⟨_, (hf.keep hb2 hgl).set k _, fun j hj => ?_⟩, fun j hj => ?_, fun j hj => ?_, fun j hj y hy => ?_, ?_⟩
  · by_cases e : j = k
    · subst e; rw [upd_same, if_pos rfl]; rfl
    · rw [upd_ne _ _ e, if_neg e]; exact hff j hj
  · rw [if_neg (by omega)]; exact h2 j (by omega)
  · by_cases e : j = k
    · subst e; rw [if_pos rfl, if_pos rfl, hp]; exact ⟨rfl, rfl, rfl, rfl, rfl, rfl, rfl⟩
    · rw [if_neg e, if_neg e]; exact h3 j (by omega)
  · by_cases e : j = k
    · subst e
      rw [if_pos rfl] at hy ⊢
      cases hy
      refine ⟨MC.same hsame ?_ (by simp; omega) ?_, by simp; omega, ?_⟩
      · have hc : ∀ i v, (#[Value.int .i64 i0, .int .i64 i1, .int .i64 i2, .int .u64 (ms j).num, .string vv, .int .u64 (ms j).stamp, .slice none 0 0, .slice sa' (ms j).sn (ms j).sn, .slice ha' (ms j).hn (ms j).hn, .slice none 0 0] : Array Value)[i]? = some v → (w'.alloc O).cell? ⟨w'.heap.size, i, none⟩ = some v := by
          intro i v hv
          subst hO
          have : (w'.alloc (.cells #[.int .i64 i0, .int .i64 i1, .int .i64 i2, .int .u64 (ms j).num, .string vv, .int .u64 (ms j).stamp, .slice none 0 0, .slice sa' (ms j).sn (ms j).sn, .slice ha' (ms j).hn (ms j).hn, .slice none 0 0] 33)).heap[w'.heap.size]? = _ := heap_alloc_new w' _
          simp only [World.cell?, this]
          exact hv
        exact ⟨hc _ _ rfl, hc _ _ rfl, hc _ _ rfl, hout.rows.hd.keep ((Below.refl _ _).alloc (Nat.le_refl _) O)⟩
      · intro y hy; have := hout.hblk y hy; omega
      · intro y hy; have := hout.hblk y hy; omega
    · rw [if_neg e] at hy ⊢
      obtain ⟨m1, m2, m3⟩ := h4 j (by omega) y hy
      exact ⟨(m1.keep hb2).same hsame m2 m3, m2, m3⟩
  · exact (h5.trans (hb2.mono h5.size)).setCell hg _

theorem sumN_congr {f g : Nat → Nat} {n : Nat} (h : ∀ j, j < n → f j = g j) {k : Nat} (hk : k ≤ n) : sumN f k = sumN g k := by
  induction k with
  | zero => rfl
  | succ k ih => rw [sumN_succ, sumN_succ, ih (by omega), h k (by omega)]
theorem sumN_mono {f g : Nat → Nat} (h : ∀ j, f j ≤ g j) (k : Nat) : sumN f k ≤ sumN g k := by
  induction k with
  | zero => exact Nat.le_refl _
  | succ k ih => rw [sumN_succ, sumN_succ]; have := h k; omega
theorem hl_le (pt : Nat → Option (Nat × Nat)) (ms : Nat → Msg) (j : Nat) : hl pt ms j ≤ fSize pt ms j := by
  unfold hl fSize
  split
  · unfold mSize mBase; omega
  · exact Nat.le_refl _

theorem LoopM.live {w wr : World} {g n : Nat} {pt pt' : Nat → Option (Nat × Nat)} {ms ms' : Nat → Msg} (h : LoopM w wr g n n pt ms pt' ms') {j : Nat} (hj : j ≤ n) : liveN pt' j = liveN pt j :=
  sumN_congr (fun i hi => by rw [(h.same i hi).1]) hj
theorem LoopM.hls {w wr : World} {g n : Nat} {pt pt' : Nat → Option (Nat × Nat)} {ms ms' : Nat → Msg} (h : LoopM w wr g n n pt ms pt' ms') {j : Nat} (hj : j ≤ n) : sumN (hl pt' ms') j = sumN (hl pt ms) j :=
  sumN_congr (fun i hi => by unfold hl; rw [(h.same i hi).1, (h.same i hi).2.2.2.1]) hj
theorem LoopM.isMs {w wr : World} {g n : Nat} {pt pt' : Nat → Option (Nat × Nat)} {ms ms' : Nat → Msg} (h : LoopM w wr g n n pt ms pt' ms') : IsMs wr (some ⟨g, 0, none⟩) n pt' ms' := by
  obtain ⟨f, hf, hff⟩ := h.own
  refine .inr ⟨g, 0, rfl, fun j hj => ⟨?_, fun x hx => (h.msg j hj x hx).1⟩⟩
  rw [← hff j hj, Nat.zero_add]
  exact hf.cell hj

/-- The result of 'receipts' as 'checkReceipts' wants it. -/
structure Res (w : World) (gH gA L T n : Nat) (fH fA : Nat → Value) (pt : Nat → Option (Nat × Nat)) (ms : Nat → Msg) : Prop where
  hL : L = liveN pt n
  hT : T = sumN (hl pt ms) n
  oH : Own w gH (L * 4) 42 fH
  kH : HeadsOK fH gA pt ms n
  oA : Own w gA (T * 3) 39 fA
  kA : RecsOK fA pt ms n
theorem Res.keep {w w' : World} {gH gA L T n : Nat} {fH fA : Nat → Value} {pt : Nat → Option (Nat × Nat)} {ms : Nat → Msg} (h : Res w gH gA L T n fH fA pt ms) (hb : Below w.heap.size w w') : Res w' gH gA L T n fH fA pt ms :=
  ⟨h.hL, h.hT, h.oH.keep hb h.oH.lt, h.kH, h.oA.keep hb h.oA.lt, h.kA⟩

theorem LoopM.res {w wr w6 wx : World} {g n gH gA : Nat} {pt pt' : Nat → Option (Nat × Nat)} {ms ms' : Nat → Msg} (h : LoopM w wr g n n pt ms pt' ms') (hR : LoopR wx w6 gH gA (liveN pt' n) (sumN (hl pt' ms') n) n pt' ms') : ∃ fH fA, Res w6 gH gA (liveN pt n) (sumN (hl pt ms) n) n fH fA pt ms := by
  obtain ⟨⟨fH, o1, k1⟩, ⟨fA, o2, k2⟩, _⟩ := hR
  rw [h.live (Nat.le_refl _)] at o1
  rw [h.hls (Nat.le_refl _)] at o2
  have hx : ∀ j, j < n → ∀ x, pt j = some x → ∃ x', pt' j = some x' := by
    intro j hj x hx
    have := (h.same j hj).1
    rw [hx] at this
    exact Option.isSome_iff_exists.1 this
  refine ⟨fH, fA, rfl, rfl, o1, fun j hj x hxx => ?_, o2, fun j hj x hxx i hi => ?_⟩
  · obtain ⟨x', hx'⟩ := hx j hj x hxx
    have := k1 j hj x' hx'
    obtain ⟨e1, e2, e3, _⟩ := (h.same j hj).2
    rw [h.live (by omega), h.hls (by omega), e1, e2, e3] at this
    exact this
  · obtain ⟨x', hx'⟩ := hx j hj x hxx
    obtain ⟨e1, e2, e3, e4, e5, e6⟩ := (h.same j hj).2
    have := k2 j hj x' hx' i (by rw [e3]; exact hi)
    rw [h.hls (by omega), e4, e5, e6] at this
    exact this

/-- An 'append' whose run is known. -/
theorem wpList_append_eq {P : Program} {w : World} {ops : Array Oper} {rest : List Oper} {o : Oper} {a : Act} {Q : Exit → Act → World → Prop} (hgd : o.guard = none) (s x : Operand) (t : TypeId)
    (ho : o.op = .call { callee := .builtin .append, args := #[s, x], argTypes := #[t, t] }) (vs vx v' : Value) (w' : World) (hs : a.eval s = vs) (hx : a.eval x = vx)
    (hrun : (Builtin.append_ #[t, t] o.type #[vs, vx]).run P w = .ok v' w') (h : wpList P ops Q rest (a.put o.dst v') w') : wpList P ops Q (o :: rest) a w := by
  refine wpList_plain hgd fun K hK => ?_
  unfold Oper.wp execOp
  simp only [ho, resolve, invoke, builtin, Sem.run_bind, Sem.run_pure, Result.andThen_ok, List.map_toArray, List.map_cons, List.map_nil, hs, hx, hrun]
  exact hK _ _ h

/-- 'append' onto an entry's receipts grows: it takes a new row. -/
theorem append_grows {w : World} {gH gA L T n : Nat} {fH fA : Nat → Value} {pt : Nat → Option (Nat × Nat)} {ms : Nat → Msg} (h : Res w gH gA L T n fH fA pt ms) (hTn : T ≤ 1048576) {j : Nat} (hj : j < n) {x : Nat × Nat} (hx : pt j = some x) {S m : Nat} (hS : S = sumN (hl pt ms) j) (hm : m = (ms j).hn) (v0 v1 v2 : Value) (h0 : v0.oneCell' = true) (h1 : v1.oneCell' = true) (h2 : v2.oneCell' = true) :
    ∃ a' c' W2, (Builtin.append_ #[40, 40] 40 #[.slice (some ⟨gA, S * 3, none⟩) m m, .slice (some ⟨w.heap.size, 0, none⟩) 1 1]).run Try.prog (w.alloc (.cells #[v0, v1, v2] 39)) = .ok (.slice a' (m + 1) c') W2 ∧ Below w.heap.size w W2 := by
  obtain ⟨i0, hi, hz0, hz1, hz2⟩ := info_parts Try.info39
  have hle := sumN_le (hl pt ms) (show j + 1 ≤ n from hj)
  rw [hl_some hx, ← h.hT, ← hm, ← hS] at hle
  have hr := run_append_grow (P := Try.prog) (w.alloc (.cells #[v0, v1, v2] 39)) 40 40 39 i0 _ Try.underlying40 hi hz0 ⟨gA, S * 3, none⟩ m m ((List.range (m * 3)).map fun i => fA (S * 3 + i)) (by simp [hz1])
    (fun i v hv => by
      have hil : i < m * 3 := by have := (List.getElem?_eq_some_iff.1 hv).1; simpa using this
      simp [hil] at hv
      subst hv
      have := (h.oA.alloc (.cells #[v0, v1, v2] 39)).cell (i := S * 3 + i) (by omega)
      rwa [Addr.add_lit])
    ⟨w.heap.size, 0, none⟩ 1 1 [v0, v1, v2] (by simp [hz1])
    (fun i v hv => by
      match i, hv with
      | 0, hv => simp at hv; subst hv; simp [Addr.add]
      | 1, hv => simp at hv; subst hv; simp [Addr.add]
      | 2, hv => simp at hv; subst hv; simp [Addr.add])
    (by omega) (by omega) (growslice_fits (by omega) (by rw [hz2]; omega))
  exact ⟨_, _, _, hr, (((Below.refl _ _).alloc (Nat.le_refl _) _).drew).alloc (by simp) _⟩

set_option maxRecDepth 100000 in
set_option maxHeartbeats 1000000 in
theorem walk3 (a : Option Addr) (n c : Nat) (pt : Nat → Option (Nat × Nat)) (ms : Nat → Msg) (w : World) (h : IsFrom w a n pt ms) :
    Calls Try.prog 3 #[.slice a n c] w fun e w' => e = .returned (.bool true) ∧ Below w.heap.size w w' := by
  have H := hide h
  clear h
  go_enter Try.func3, Try.ntmps3
  go_wp2_with fail
  refine (zz7_any a n c pt ms w H.out).mono ?_
  rintro e w1 ⟨⟨r, rfl⟩, rfl⟩
  cases r with
  | false =>
    go_wp2
    go_ret
    exact ⟨rfl, Below.refl _ _⟩
  | true =>
    go_wp2_with fail
    refine (receiptBytes_any a n c pt ms w H.out).mono ?_
    rintro e w1 ⟨B, rfl, hB, q, rfl⟩
    by_cases hBL : 1048576 < B
    · go_wp2
      go_ret
      exact ⟨rfl, below_drewN (Below.refl _ _) q⟩
    have hsz := hB (by omega)
    clear hB
    have hBL' : B ≤ 1048576 := by omega
    have hn : n ≤ 1048576 := by omega
    have HSZ := hide hsz
    clear hsz
    have hmk := make25 n hn
    go_wp2
    go_loopw [4] (fun i wr => ∃ k : Nat, k ≤ n ∧ i = .int .i64 k ∧ ∃ pt' ms', Hid (LoopM w wr w.heap.size n k pt ms pt' ms')) (fun i _ => n - (intOf i).toNat)
    case atStart =>
      refine ⟨0, Nat.zero_le _, rfl, fun _ => none, ms, ⟨_, Own.new (w.drewN q) (madeCells #[.pointer none] n) 35 |> fun h => by rw [size_madeCells] at h; exact h, fun j hj => ?_⟩, fun _ _ => rfl, fun j hj => by omega, fun j hj => by omega, (below_drewN (Below.refl _ _) q).alloc (Nat.le_refl _) _⟩
      simp [madeCells, hj, ptrV, Nat.mod_one]
    case round =>
      obtain ⟨k, hk, rfl, pt', ms', HM⟩ := hrel
      by_cases hlt : k < n
      · rcases H.out with h0 | ⟨b, o, rfl, hc⟩
        · omega
        have hli : (k : Int) < (n : Int) := by omega
        obtain ⟨g1, g2⟩ := hc k hlt
        have hbe := HM.out.bel
        clear hc hmk
        cases hp : pt k with
        | none =>
          rw [hp] at g1
          obtain ⟨ms2, HM2⟩ := HM.out.step_none hp
          have HM3 := hide HM2
          clear hp g2 HM2
          have g1' : wr.cell? ⟨b, o + k, none⟩ = some (.pointer none) := keep hbe g1
          clear g1
          go_wp2
          go_roundw
          case rel => exact ⟨k + 1, by omega, by go_num, pt', ms2, HM3⟩
          case measure => simp [intOf]; omega
        | some x =>
          obtain ⟨mb, mo⟩ := x
          have hm := (g2 _ hp).keep hbe
          rw [hp] at g1
          have g1' : wr.cell? ⟨b, o + k, none⟩ = some (.pointer (some ⟨mb, mo, none⟩)) := keep hbe g1
          have HP := hide hp
          have hfs : fSize pt ms k ≤ 1048576 := by have := sumN_one (fSize pt ms) hlt; have := HSZ.out; omega
          have hms : mSize (ms k) ≤ 1048576 := by simpa [fSize, hp] using hfs
          have HMS := hide hms
          have HMM := hide hm
          obtain ⟨f, hown, hff⟩ := HM.out.own
          clear hp g1 g2 hm hfs hms
          go_wp2_with fail
          refine (toMsg mb mo (ms k) wr HMM.out ?_ ?_ ?_).mono ?_
          · have := HMS.out; unfold mSize mBase at this; omega
          · have := HMS.out; unfold mSize mBase at this; omega
          · intro i hi
            have := HMS.out
            have := sumN_one (ms k).pn hi
            unfold mSize mBase at *; omega
          rintro e w' ⟨sa', ha', pa', rfl, hout⟩
          have hbo := hout.bel
          have hown2 := hown.keep hbo hown.lt
          have hown3 := hown2.alloc (.cells #[.int .i64 (ms k).frm, .int .i64 (ms k).dst, .int .i64 (ms k).rnd, .int .u64 (ms k).num, .string (ms k).val, .int .u64 (ms k).stamp, .slice none 0 0, .slice sa' (ms k).sn (ms k).sn, .slice ha' (ms k).hn (ms k).hn, .slice none 0 0] 33)
          have x0 := hown3.cell (i := k) hlt
          have f0 := hown3.frozen k
          obtain ⟨pt2, ms2, hM2⟩ := LoopM.step_some (i0 := (ms k).frm) (i1 := (ms k).dst) (i2 := (ms k).rnd) (vv := (ms k).val) HM.out HP.out hlt (Nat.le_refl _) hout
          have hgl : w.heap.size < w'.heap.size := hown2.lt
          rw [World.setCell_alloc_past (hn := hgl)] at hM2
          have HM2 := hide hM2
          clear hM2 hown hown2 hown3 hout hbo
          go_wp2
          go_roundw
          case rel => exact ⟨k + 1, by omega, by go_num, pt2, ms2, HM2⟩
          case measure => simp [intOf]; omega
      · clear hmk
        have hke : k = n := by omega
        subst hke
        have hT : sumN (hl pt ms) k ≤ 1048576 := by have := sumN_mono (hl_le pt ms) k; have := HSZ.out; omega
        obtain ⟨w5, h5⟩ : ∃ x, x = wr := ⟨_, rfl⟩
        subst h5
        go_wp2_with fail
        refine (zzreceipts_any (some ⟨w.heap.size, 0, none⟩) k k pt' ms' w5 HM.out.isMs hn (by rw [HM.out.hls (Nat.le_refl _)]; exact hT)).mono ?_
        rintro e w6 ⟨gH, gA, rfl, h1, h2, hR⟩
        rw [HM.out.live (Nat.le_refl _)]
        obtain ⟨fH, fA, hres⟩ := HM.out.res hR
        have hb5 := HM.out.bel
        have hb6 : Below w.heap.size w w6 := hb5.trans (hR.bel.mono hb5.size)
        obtain ⟨L, HL⟩ : ∃ L, Hid (L = liveN pt k) := ⟨_, rfl⟩
        obtain ⟨T, HT⟩ : ∃ T, Hid (T = sumN (hl pt ms) k) := ⟨_, rfl⟩
        have hLn : L ≤ 1048576 := by rw [HL.out]; have := liveN_n pt k; omega
        rw [← HL.out] at hres ⊢
        rw [← HT.out] at hres hT
        have HRES := hide hres
        clear hres hR HM
        go_wp2_with fail
        refine (check_any a k c pt ms w6 (H.out.keep hb6) hn gH gA L T fH fA HRES.out.hL HRES.out.hT hT HRES.out.oH HRES.out.kH HRES.out.oA HRES.out.kA).mono ?_
        rintro e w7 ⟨rfl, hb7⟩
        go_wp2
        go_loopw [7] (fun i wr => ∃ s : Nat, s ≤ 2 ∧ i = .int .i64 s ∧ Hid (Below w6.heap.size w6 wr)) (fun i _ => 2 - (intOf i).toNat)
        case atStart => exact ⟨0, by omega, rfl, hb7⟩
        case round =>
          obtain ⟨s, hs, rfl, HB⟩ := hrel
          by_cases hst : s < 2
          · have hsi : (s : Int) < 2 := by omega
            go_wp2
            go_loopw [8] (fun i wz => ∃ p : Nat, p ≤ L ∧ i = .int .i64 p ∧ Hid (Below w6.heap.size w6 wz)) (fun i _ => L - (intOf i).toNat)
            case atStart => exact ⟨0, Nat.zero_le _, rfl, HB⟩
            case round =>
              obtain ⟨p, hp, rfl, HZ⟩ := hrel
              have hrz := HRES.out.keep HZ.out
              by_cases hpt : p < L
              · obtain ⟨j, x, hj, hjs, hjl⟩ := live_at pt k p (by rw [← HL.out]; exact hpt)
                have hpi : (p : Int) < (L : Int) := by omega
                obtain ⟨_, _, _, a3⟩ := hrz.kH j hj _ hjs
                rw [hjl] at a3
                have x3 := hrz.oH.cell (i := p * 4 + 3) (by omega)
                rw [a3] at x3
                by_cases hz : (ms j).hn = 0
                · rw [hz, pslice_zero] at x3
                  clear hrz a3 hjs hjl hz
                  go_wp2
                  go_roundw
                  case rel => exact ⟨p + 1, by omega, by go_num, HZ⟩
                  case measure => simp [intOf]; omega
                · rw [pslice_pos _ _ _ hz] at x3
                  obtain ⟨S, hS⟩ : ∃ S, S = sumN (hl pt ms) j := ⟨_, rfl⟩
                  obtain ⟨m, hm⟩ : ∃ m, m = (ms j).hn := ⟨_, rfl⟩
                  obtain ⟨a', c', W2, hap, hbW⟩ := append_grows hrz hT hj hjs hS hm (.int .i64 s) (.int .u64 s) (.int .u64 s) rfl rfl rfl
                  have hle := sumN_le (hl pt ms) (show j + 1 ≤ k from hj)
                  rw [hl_some hjs, ← HT.out, ← hm] at hle
                  have hmb : m ≤ 1048576 := by omega
                  rw [← hS, ← hm] at x3
                  rw [← hm] at hz
                  have hz' : ((m : Int) == 0) = false := by simp; omega
                  have x3' := keep hbW x3
                  have hgl : gH < wr.heap.size := hrz.oH.lt
                  have HZ2 : Hid (Below w6.heap.size w6 W2) := HZ.out.trans (hbW.mono HZ.out.size)
                  have HAP := hide hap
                  clear hrz a3 hjs hjl hS hm hle hbW hap
                  go_wp2_with (at_builtin; refine wpList_append_eq rfl _ _ 40 rfl _ _ _ _ rfl rfl HAP.out ?_)
                  go_roundw
                  case rel => exact ⟨p + 1, by omega, by go_num, HZ2⟩
                  case measure => simp [intOf]; omega
              · have hbz : Below w.heap.size w wr := hb6.trans (HZ.out.mono hb6.size)
                have HRZ := hide hrz
                clear hrz
                go_wp2_with fail
                refine (check_any a k c pt ms wr (H.out.keep hbz) hn gH gA L T fH fA HRZ.out.hL HRZ.out.hT hT HRZ.out.oH HRZ.out.kH HRZ.out.oA HRZ.out.kA).mono ?_
                rintro e w8 ⟨rfl, hb8⟩
                have HZ3 : Hid (Below w6.heap.size w6 w8) := HZ.out.trans (hb8.mono HZ.out.size)
                clear hb8
                go_wp2
                go_roundw
                case rel => exact ⟨s + 1, by omega, by go_num, HZ3⟩
                case measure => simp [intOf]; omega
          · go_wp2
            go_ret
            exact ⟨rfl, hb6.trans (HB.out.mono hb6.size)⟩
end Go.Proofs.Qxb6605338a
