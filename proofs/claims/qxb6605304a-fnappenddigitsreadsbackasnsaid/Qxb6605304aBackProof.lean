/-
  THE PROOF OF 'Rows.FnAppendDigitsReadsBackAsNSaid': the shell that came with the seat, its hole filled.
-/
import Derived.Test.Qxb6605304aClone
import Derived.Test.Qxb6605304aRows
import Derived.WalkKit
import Derived.ProofKit
import Derived.OpenShut
import Derived.ShutString
import Derived.ChangeOld
import Derived.Below
namespace Go.Proofs.Qxb6605304a.fnAppendDigitsReadsBackAsN
open Go.ChangeShapes Go.WideShapes Go.ChangeAt Go.RowKit
open Go.ChangeMaps (open_string shut_string)
set_option linter.unusedVariables false

theorem own : ownKnob Try.prog.godebug = none := by kernel_rfl
theorem laidOut : laidOutB Try.prog = true := by kernel_rfl

/-- WHAT THE WALK IS TOLD OF A SLICE OF INTEGERS THAT CAME IN: it is nil; or it leads to a row of 'cap' cells, the numbers 'zs' (the first 'len' are its elements, the rest its spare room), each fitting its kind. -/
def IsRow (k : IntKind) (w : World) (a : Option Addr) (len cap : Nat) (zs : List Int) : Prop :=
  (a = none ∧ len = 0 ∧ cap = 0 ∧ zs = []) ∨
  ∃ x, a = some x ∧ len ≤ cap ∧ cap ≤ maxLen ∧ zs.length = cap ∧ (∀ i, i < zs.length → w.cell? (x.add i) = some (.int k (zs.getD i 0))) ∧ ∀ n ∈ zs, (Lit.int k n).wf = true

theorem hide {p : Prop} (h : p) : Hid p := h

theorem grown_of_below {w w' : World} (h : Below w.heap.size w w') : w.grownBy w' none := ⟨h.os, h.tape, h.output, h.size, fun k hk _ => h.block k hk⟩

theorem before_kept {wa wb wc : World} {B n m : Nat} {v1 v2 : Value} {cs cs' : List Value} (o1 : wa.ownsRow B 5 1 v1 n cs) (o2 : wb.ownsRow wa.heap.size 5 1 v2 m cs') (g : wb.grownBy wc v1.ownBlock) : wc.ownsRow wa.heap.size 5 1 v2 m cs' := by
  refine o2.kept g ?_
  cases h2 : v2.ownBlock with
  | none => exact .inl rfl
  | some b => 
    refine .inr fun e => ?_
    have := o1.lt b e.symm
    have := o2.lt b h2
    omega

theorem below_three {w wa wb wc : World} {n : Nat} {v1 : Value} {cs : List Value} (o1 : wa.ownsRow w.heap.size 5 1 v1 n cs) (b1 : Below w.heap.size w wa) (b2 : Below wa.heap.size wa wb) (g : wb.grownBy wc v1.ownBlock) : Below w.heap.size w wc :=
  (b1.trans (b2.mono b1.size)).grown g (Nat.le_trans b1.size b2.size) (fun k hk => (o1.lt k hk).1)

theorem shape_form {w : World} {base n : Nat} {v : Value} {cs : List Value} (h : w.ownsRow base 5 1 v n cs) : ∃ a c, v = .slice a n c ∧ ((a = none ∧ n = 0) ∨ ∃ g, a = some ⟨g, 0, none⟩ ∧ n ≤ c ∧ c ≤ maxLen ∧ ∀ j u, cs[j]? = some u → w.cell? ⟨g, j, none⟩ = some u) := by
  rcases own_shape h with ⟨rfl, rfl⟩ | ⟨g, c, rfl, _, h1, h2, h3⟩
  · exact ⟨_, _, rfl, .inl ⟨rfl, rfl⟩⟩
  · exact ⟨_, _, rfl, .inr ⟨g, rfl, h1, h2, h3⟩⟩

theorem decimal_k (b off cap k : Nat) (ds : List Int) (w : World) (hk : ds.length = k) (hd : Digs ds) (hl : k ≤ 4)
    (hc : ∀ j, j < k → w.cell? ⟨b, off + j, none⟩ = some (.int .u8 (ds.getD j 0))) :
    Calls Try.prog 10 #[.slice (some ⟨b, off, none⟩) k cap] w fun e w' => e = .returned (.tuple #[.int .i64 (dec ds), .bool true]) ∧ w = w' := by
  subst hk
  exact decimal_some b off cap ds w hd hl hc

theorem tail_cells {w : World} {g len k : Nat} {cs : List Value} {n : Int} (hl : cs.length = len) (h : ∀ j u, (cs ++ (digs k n).map (.int .u8))[j]? = some u → w.cell? ⟨g, j, none⟩ = some u) :
    ∀ j, j < k → w.cell? ⟨g, len + j, none⟩ = some (.int .u8 ((digs k n).getD j 0)) := by
  intro j hj
  refine h _ _ ?_
  have hl' : j < (digs k n).length := by rw [digs_len]; exact hj
  rw [List.getElem?_append_right (by omega), hl]
  simp [hl']

theorem head_cells {w : World} {g len k : Nat} {cs : List Value} {n : Int} {zs : List Int} (hl : cs.length = len) (he : cs = zs.map (.int .u8)) (h : ∀ j u, (cs ++ (digs k n).map (.int .u8))[j]? = some u → w.cell? ⟨g, j, none⟩ = some u) :
    ∀ j, j < len → w.cell? ⟨g, j, none⟩ = some (.int .u8 (zs.getD j 0)) := by
  intro j hj
  refine h _ _ ?_
  subst he
  simp at hl
  rw [List.getElem?_append_left (by simp; omega)]
  simp [show j < zs.length by omega]

theorem all_cells {w : World} {g len : Nat} {cs : List Value} {zs : List Int} (hl : cs.length = len) (he : cs = zs.map (.int .u8)) (h : ∀ j u, cs[j]? = some u → w.cell? ⟨g, j, none⟩ = some u) :
    ∀ j, j < len → w.cell? ⟨g, j, none⟩ = some (.int .u8 (zs.getD j 0)) := by
  intro j hj
  refine h _ _ ?_
  subst he
  simp at hl
  simp [show j < zs.length by omega]

theorem row_cells {w : World} {a0 : Option Addr} {len0 cap0 : Nat} {z0 : List Int} (w0 : IsRow .u8 w a0 len0 cap0 z0) :
    ∃ cs : List Value, cs.length = len0 ∧ (a0 = none → len0 = 0) ∧ (∀ x, a0 = some x → ∀ j v, cs[j]? = some v → w.cell? (x.add j) = some v) ∧ (∀ v ∈ cs, v.oneCell' = true) ∧
      Hid (cs = (z0.take len0).map (Value.int .u8)) := by
  refine ⟨_, ?_, ?_, ?_, ?_, rfl⟩
  · rcases w0 with ⟨_, rfl, rfl, rfl⟩ | ⟨x, rfl, h1, h2, h3, _⟩
    · rfl
    · simp; omega
  · intro h
    rcases w0 with ⟨_, rfl, rfl, rfl⟩ | ⟨x, rfl, h1, h2, h3, _⟩
    · rfl
    · cases h
  · intro x hx j v hj
    rcases w0 with ⟨rfl, _⟩ | ⟨x', rfl, h1, h2, h3, h4, _⟩
    · cases hx
    · cases hx
      have hjl : j < len0 := by
        have := (List.getElem?_eq_some_iff.1 hj).1
        simp at this; omega
      have hjz : j < z0.length := by omega
      rw [h4 j hjz]
      simp [hjl, hjz] at hj
      simp [hjz, hj]
  · intro v hv
    obtain ⟨z, _, rfl⟩ := List.mem_map.1 hv
    rfl

/-! ### STEP 1: THE WALK: the Go text returns true, AND WRITES NOTHING THAT WAS THERE: 'Below w.heap.size w w'' (Derived/Below.lean: '.refl', '.alloc', '.drew', '.setCell' at a new block, '.trans'). Open each 'IsRow' by 'rcases' AHEAD of 'go_enter'; part every test ahead of the walk. -/
theorem walk (a0 : Option Addr) (len0 cap0 : Nat) (z0 : List Int) (a1 : Int) (a2 : Int) (w : World) (w0 : IsRow .u8 w a0 len0 cap0 z0) (w1 : (Lit.int .i64 a1).wf = true) (w2 : (Lit.int .i64 a2).wf = true) :
    Calls Try.prog 3 #[.slice a0 len0 cap0, .int .i64 a1, .int .i64 a2] w fun e w' => e = .returned (.bool true) ∧ Below w.heap.size w w' := by
  have hlen : len0 ≤ cap0 ∧ cap0 ≤ maxLen := by
    rcases w0 with ⟨_, rfl, rfl, _⟩ | ⟨x, _, h1, h2, _⟩
    · exact ⟨Nat.le_refl _, Nat.zero_le _⟩
    · exact ⟨h1, h2⟩
  obtain ⟨hlc, hcm⟩ := hlen
  rcases Nat.lt_or_ge 1048576 len0 with c0 | c0
  · go_enter Try.func3, Try.ntmps3
    go_wp2_with (go_at_call 6; refine (bytes6_no _ _ _ _ _ (by omega) _).mono ?_; rintro e w' ⟨rfl, rfl⟩)
    go_ret
    exact ⟨rfl, Below.refl _ _⟩
  have c0' : (len0 : Int) ≤ 1048576 := by omega
  by_cases c1 : a2 < 0
  · go_enter Try.func3, Try.ntmps3
    go_wp2_with (go_at_call 6; refine (bytes6_yes _ _ _ _ _ c0 _).mono ?_; rintro e w' ⟨rfl, rfl⟩)
    go_ret
    exact ⟨rfl, Below.refl _ _⟩
  by_cases c2 : 4 < a2
  · go_enter Try.func3, Try.ntmps3
    go_wp2_with (go_at_call 6; refine (bytes6_yes _ _ _ _ _ c0 _).mono ?_; rintro e w' ⟨rfl, rfl⟩)
    go_ret
    exact ⟨rfl, Below.refl _ _⟩
  obtain ⟨k, rfl⟩ := Int.eq_ofNat_of_zero_le (Int.not_lt.1 c1)
  have hk : k ≤ 4 := by omega
  have hp := p10_le k hk
  by_cases c3 : a1 < 0
  · go_enter Try.func3, Try.ntmps3
    go_wp2_with (first | (go_at_call 6; refine (bytes6_yes _ _ _ _ _ c0 _).mono ?_; rintro e w' ⟨rfl, rfl⟩) | (go_at_call 7; refine (pow_any k hk _).mono ?_; rintro e w' ⟨rfl, rfl⟩))
    go_ret
    exact ⟨rfl, Below.refl _ _⟩
  by_cases c4 : p10 k ≤ a1
  · go_enter Try.func3, Try.ntmps3
    go_wp2_with (first | (go_at_call 6; refine (bytes6_yes _ _ _ _ _ c0 _).mono ?_; rintro e w' ⟨rfl, rfl⟩) | (go_at_call 7; refine (pow_any k hk _).mono ?_; rintro e w' ⟨rfl, rfl⟩))
    go_ret
    exact ⟨rfl, Below.refl _ _⟩
  have D1 : Hid (dec (digs k a1) = a1) := dec_digs k a1 (by omega) (by omega)
  -- the row that came in, as cells
  obtain ⟨cs, hcl, hnn, hcc, hco, HCS⟩ := row_cells w0
  have HCL : Hid (cs.length = len0) := hcl
  clear w0 hcl
  go_enter Try.func3, Try.ntmps3
  go_wp2_with (first | (go_at_call 6; refine (bytes6_yes _ _ _ _ _ c0 _).mono ?_; rintro e w' ⟨rfl, rfl⟩) | (go_at_call 7; refine (pow_any k hk _).mono ?_; rintro e w' ⟨rfl, rfl⟩) | fail)
  refine (clone_any a0 len0 cap0 cs w HCL.out c0 hnn hcc hco).mono ?_
  rintro e wa ⟨b1, c1', rfl, o1, be1⟩
  have hs1' := own_args o1
  clear hcc hnn
  go_wp2_with fail
  refine (clone_any b1 len0 c1' cs wa HCL.out c0 hs1'.1 hs1'.2 hco).mono ?_
  clear hs1'
  rintro e wb ⟨b2, c2', rfl, o2, be2⟩
  go_wp2_with fail
  refine (zzapp_any (.slice b1 len0 c1') len0 cs a1 k w.heap.size wb hk (by omega) (by omega) (o1.kept (grown_of_below be2) ?_) (Nat.le_trans be1.size be2.size) c0).mono ?_
  · cases b1 <;> simp [Value.ownBlock]
  rintro e wc ⟨v3, rfl, o3, g3⟩
  have o2' := before_kept o1 o2 g3
  have fin := below_three o1 be1 be2 g3
  clear o1 o2 be1 be2 g3
  obtain ⟨ag, cg, hv3, hag⟩ := shape_form o3
  obtain ⟨ab, cb, hvb, hab⟩ := shape_form o2'
  simp only [Value.slice.injEq, true_and] at hvb
  obtain ⟨rfl, rfl⟩ := hvb
  subst hv3
  clear o3 o2'
  rcases hag with ⟨rfl, hz⟩ | ⟨g, rfl, hgc, hgm, hcg⟩
  · have h0 : len0 = 0 := by omega
    have h1 : k = 0 := by omega
    have h2 : a1 = 0 := by have := D1.out; rw [h1] at this; exact this.symm
    subst h0 h1 h2
    clear hz
    go_wp2
    refine wp_loop_rounds 1 ?_
    rw [rounds_succ]
    go_wp2_with (go_at_call 10; refine (decimal_zero _ _ _).mono ?_; rintro e w' ⟨rfl, rfl⟩)
    go_ret
    exact ⟨rfl, fin⟩
  · have TC := tail_cells HCL.out hcg
    have HC := head_cells HCL.out HCS.out hcg
    clear hcg
    rcases hab with ⟨rfl, hz⟩ | ⟨gb, rfl, hbc, hbm, hcb⟩
    · subst hz
      simp only [Nat.zero_add] at hgc
      clear HC
      by_cases hk0 : k = 0
      · have h2 : a1 = 0 := by have := D1.out; rw [hk0] at this; exact this.symm
        subst hk0 h2
        clear TC
        go_wp2
        refine wp_loop_rounds 1 ?_
        rw [rounds_succ]
        go_wp2_with (go_at_call 10; refine (decimal_zero _ _ _).mono ?_; rintro e w' ⟨rfl, rfl⟩)
        go_ret
        exact ⟨rfl, fin⟩
      · have TC' := hide TC
        clear TC
        go_wp2
        refine wp_loop_rounds 1 ?_
        rw [rounds_succ]
        go_wp2_with fail
        refine (decimal_k g 0 cg k (digs k a1) wc (digs_len _ _) (digs_digs _ _) hk TC'.out).mono ?_
        rintro e w' ⟨rfl, rfl⟩
        rw [D1.out]
        go_wp2
        go_ret
        exact ⟨rfl, fin⟩
    · have HB := all_cells HCL.out HCS.out hcb
      clear hcb
      have TC' := hide TC
      clear TC
      have HC' := hide HC
      have HB' := hide HB
      clear HC HB
      unfold maxLen at hgm hbm
      go_wp2
      go_loopw [9] (fun i wr => ∃ j q : Nat, j ≤ len0 ∧ i = .int .i64 j ∧ wr = wc.drewN q) (fun i _ => len0 - (intOf i).toNat)
      case atStart => exact ⟨0, 0, Nat.zero_le _, rfl, rfl⟩
      case round =>
        obtain ⟨j, q, hj, rfl, rfl⟩ := hrel
        by_cases hlt : j < len0
        · have g1 := HC'.out j hlt
          have g2 := HB'.out j hlt
          have hli : (j : Int) < (len0 : Int) := by omega
          have hli' : (j : Int) < (len0 : Int) + (k : Int) := by omega
          go_wp2
          go_quiet (fail)
          go_wp2
          go_roundw
          case rel => exact ⟨j + 1, _, by omega, by go_num, rfl⟩
          case measure => simp [intOf]; omega
        · have hje : j = len0 := by omega
          subst hje
          by_cases hk0 : k = 0
          · have h2 : a1 = 0 := by have := D1.out; rw [hk0] at this; exact this.symm
            subst hk0 h2
            go_wp2_with (go_at_call 10; refine (decimal_zero _ _ _).mono ?_; rintro e w' ⟨rfl, rfl⟩)
            all_goals (go_ret; exact ⟨rfl, below_drewN fin q⟩)
          · go_wp2_with fail
            refine (decimal_k g j (cg - j) k (digs k a1) (wc.drewN q) (digs_len _ _) (digs_digs _ _) hk TC'.out).mono ?_
            rintro e w' ⟨rfl, rfl⟩
            rw [D1.out]
            go_wp2
            go_ret
            exact ⟨rfl, below_drewN fin q⟩

/-! ### THE ROW's STEP: WRITTEN OUT: LEAVE IT -/
set_option maxRecDepth 100000 in
theorem lifted (os : Os) (started : os.Started) (H : Type) (enc : TypeId × Value → H) :
    ReturnsInHanded {} Try.checked os 3 .any (Rows.fnAppendDigitsReadsBackAsNSpec.pre6 enc Try.prog Try.f3 Rows.fnAppendDigitsReadsBackAsNRow.domain false) (Rows.fnAppendDigitsReadsBackAsNSpec.post enc Try.prog Try.f3 false true false false) := by
  refine returnsInHanded_of_change (C := Try.checked) own started (by kernel_rfl) Try.func3
    (ChangeSpec.witness6 (enc := enc) (C := Try.checked) false ⟨#[], #[.slice none 0 0, .int .i64 0, .int .i64 0], []⟩ 8 (by kernel_rfl) (by kernel_rfl) (by kernel_rfl) (by kernel_rfl)) ?_
  intro W base args ds gs before hval0 hW hcnd _
  have hval : ∀ (j : Nat) t v, Try.f3.params[j]? = some t → args[j]? = some v → Value.okWide Try.prog W .any base t v := hval0
  have hW' := hW
  obtain ⟨p, q, hA0, hV, rfl, hfz, hnd⟩ := hW
  have hA : DataW.TrodAll enc Try.prog W 0 (fun _ => true) true Try.f3.params.toList args.toList ds p := hA0
  rw [Try.params3] at hA hval
  obtain ⟨v0, vs0, d0, ds0, p0, q0, hargs, rfl, rfl, h0, r0⟩ := trodAll_cons hA
  obtain ⟨v1, vs1, d1, ds1, p1, q1, rfl, rfl, rfl, h1, r1⟩ := trodAll_cons r0
  obtain ⟨v2, vs2, d2, ds2, p2, q2, rfl, rfl, rfl, h2, r2⟩ := trodAll_cons r1
  obtain ⟨rfl, rfl, rfl⟩ := trodAll_nil r2
  obtain rfl : args = #[v0, v1, v2] := by cases args; simp_all
  obtain ⟨rfl, rfl⟩ := trodVars_none hV
  obtain ⟨a0, len0, cap0, rfl⟩ := okWide_slice Try.underlying22 (hval 0 22 v0 rfl rfl)
  have k0 := h0
  have lt0 : ∀ x ∈ p0, x.block < W.heap.size := by obtain ⟨m, hm⟩ := k0; exact DataW.trod_lt m _ _ _ hm
  obtain ⟨z0, w0⟩ : ∃ zs, IsRow .u8 W a0 len0 cap0 zs := by
    obtain ⟨fuel, hf⟩ := h0
    rcases open_ints Try.underlying22 Try.underlying5 (by kernel_rfl) hf with ⟨hcs, _⟩ | ⟨x, l, c, zs, hcs, _, hl, hm, hz, _, hcell, hwz⟩
    · simp [Value.cells] at hcs
      obtain ⟨rfl, rfl, rfl⟩ := hcs
      exact ⟨[], .inl ⟨rfl, rfl, rfl, rfl⟩⟩
    · simp [Value.cells] at hcs
      obtain ⟨rfl, rfl, rfl⟩ := hcs
      exact ⟨zs, .inr ⟨_, rfl, hl, hm, by simpa using hz, hcell, hwz⟩⟩
  obtain ⟨a1, rfl, rfl, rfl, w1⟩ := open_int Try.underlying3 (hval 1 3 v1 rfl rfl) h1
  obtain ⟨a2, rfl, rfl, rfl, w2⟩ := open_int Try.underlying3 (hval 2 3 v2 rfl rfl) h2
  clear hA0 hval0
  refine (walk a0 len0 cap0 z0 a1 a2 W w0 w1 w2).mono fun e W' ⟨he, bel⟩ => ?_
  subst he
  exact ⟨_, rfl, _, _, _, [], _, [], hW', trodAll_mk1 (shut_bool Try.underlying4 _), (trodAll_cons_mk (Below.trod laidOut (by kernel_rfl) (of_decide_eq_true (by kernel_rfl)) k0 bel lt0) (trodAll_cons_mk (shut_int Try.underlying3 w1) (trodAll_cons_mk (shut_int Try.underlying3 w2) trodAll_mk0))), rfl, bel.frame _, fun h => by cases h⟩

theorem over : Rows.fnAppendDigitsReadsBackAsNRow.holds Try.pinned (OpenSpec.ofChange Rows.fnAppendDigitsReadsBackAsNSpec) :=
  OpenClaim.holds_of_wide 3 Try.f3 rfl rfl rfl rfl rfl rfl rfl ⟨rfl, rfl, rfl, rfl, rfl⟩ rfl rfl rfl rfl rfl (by kernel_rfl) Try.func3 (by kernel_rfl)
    (of_decide_eq_true (by kernel_rfl)) (by unfold Func.isWrapper; first | (rw [if_pos (by decide +kernel)]; kernel_rfl) | (rw [if_neg (by decide +kernel)]; exact ⟨rfl, rfl⟩))
    (fun os started H enc _ => lifted os started H enc)

/-- ████ THE STATEMENT ████ -/
theorem proved : Rows.FnAppendDigitsReadsBackAsNSaid := over
#print axioms proved
end Go.Proofs.Qxb6605304a.fnAppendDigitsReadsBackAsN
