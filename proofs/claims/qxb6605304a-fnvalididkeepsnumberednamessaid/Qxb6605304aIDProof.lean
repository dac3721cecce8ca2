/-
  THE PROOF OF 'Rows.FnValidIDKeepsNumberedNamesSaid': the shell that came with the seat, its hole filled.
-/
import Derived.Test.Qxb6605304aIds
import Derived.Test.Qxb6605304aRows
import Derived.WalkKit
import Derived.ProofKit
import Derived.OpenShut
import Derived.ShutString
namespace Go.Proofs.Qxb6605304a.fnValidIDKeepsNumberedNames
open Go.ChangeShapes Go.WideShapes Go.ChangeAt Go.RowKit
open Go.ChangeMaps (open_string shut_string)
set_option linter.unusedVariables false      -- a walk need not use every 'w<i>' (that an integer argument fits its kind)

theorem own : ownKnob Try.prog.godebug = none := by kernel_rfl

/-! ### PLAIN FACTS ON THE TEXT -/
theorem digs_all (k : Nat) (n : Int) : allID (strOfNums (digs k n)).data.toList = true := by
  rw [strOfNums_data]
  simp only [allID, List.all_map, List.all_eq_true]
  intro d hd
  have h := digs_digs k n d hd
  have e : ((UInt8.ofNat d.toNat).toNat : Int) = d := by simp; omega
  simp only [Function.comp]
  rw [e]
  simp [idB]; omega

theorem id_all (p : ByteArray) (k : Nat) (n : Int) : (decide (0 < (p ++ ⟨#[45]⟩ ++ strOfNums (digs k n)).size) && allID (p ++ ⟨#[45]⟩ ++ strOfNums (digs k n)).data.toList) = allID p.data.toList := by
  have h1 : 0 < (p ++ ⟨#[45]⟩ ++ strOfNums (digs k n)).size := by
    rw [ByteArray.size_append, ByteArray.size_append]
    have : (⟨#[45]⟩ : ByteArray).size = 1 := rfl
    omega
  have h2 : (p ++ ⟨#[45]⟩ ++ strOfNums (digs k n)).data.toList = p.data.toList ++ [45] ++ (strOfNums (digs k n)).data.toList := by simp [ByteArray.data_append]
  rw [h2, allID_append, allID_append, digs_all]
  simp only [h1, decide_true, Bool.true_and, Bool.and_true]
  have : allID [45] = true := by decide
  rw [this, Bool.and_true]

theorem conv_own {w : World} {base k : Nat} {a : Option Addr} {c : Nat} {n : Int} (h : w.ownsRow base 5 1 (.slice a k c) k ((digs k n).map (.int .u8))) :
    ∀ W, Below w.heap.size w W → (convert 22 9 (.slice a k c)).run Try.prog W = .ok (.string (strOfNums (digs k n))) W := by
  intro W hb
  have h' := h
  rcases h.2 with ⟨h1, h2⟩ | ⟨g, cap, cur, h1, _⟩
  · simp at h1
    obtain ⟨rfl, rfl, rfl⟩ := h1
    exact run_convert_bytes_nil W 22 5 Try.underlying22 Try.underlying5 _ _ 9 Try.underlying9
  · simp at h1
    obtain ⟨rfl, rfl⟩ := h1
    refine run_convert_bytes_arg W 22 5 Try.underlying22 Try.underlying5 g 0 k _ (digs k n) (digs_len _ _) ?_ 9 Try.underlying9
    intro i hi
    have := own_cells (ds := digs k n) (n := k) (by rw [digs_len]; exact h') i (by rw [digs_len]; exact hi)
    rw [← this]
    exact hb.cell (World.block_lt_of_cell? w _ this)

/-! ### STEP 1: THE WALK -/
theorem walk (a0 : ByteArray) (a1 : Int) (a2 : Int) (w0 : a0.size ≤ maxLen) (w1 : (Lit.int .i64 a1).wf = true) (w2 : (Lit.int .i64 a2).wf = true) (w : World) :
    Calls Try.prog 5 #[.string a0, .int .i64 a1, .int .i64 a2] w fun e w' => e = .returned (.bool true) ∧ Below w.heap.size w w' := by
  rcases Nat.lt_or_ge 1048576 a0.size with c0 | c0
  · go_enter Try.func5, Try.ntmps5
    go_wp2_with (go_at_call 12; refine (bytes12_no _ _ _ (by omega) _).mono ?_; rintro e w' ⟨rfl, rfl⟩)
    go_ret
    exact ⟨rfl, Below.refl _ _⟩
  have c0' : (a0.size : Int) ≤ 1048576 := by omega
  by_cases c1 : a2 < 0
  · go_enter Try.func5, Try.ntmps5
    go_wp2_with (go_at_call 12; refine (bytes12_yes _ _ _ c0 _).mono ?_; rintro e w' ⟨rfl, rfl⟩)
    go_ret
    exact ⟨rfl, Below.refl _ _⟩
  by_cases c2 : 4 < a2
  · go_enter Try.func5, Try.ntmps5
    go_wp2_with (go_at_call 12; refine (bytes12_yes _ _ _ c0 _).mono ?_; rintro e w' ⟨rfl, rfl⟩)
    go_ret
    exact ⟨rfl, Below.refl _ _⟩
  obtain ⟨k, rfl⟩ := Int.eq_ofNat_of_zero_le (Int.not_lt.1 c1)
  have hk : k ≤ 4 := by omega
  have hp := p10_le k hk
  by_cases c3 : a1 < 0
  · go_enter Try.func5, Try.ntmps5
    go_wp2_with (first | (go_at_call 12; refine (bytes12_yes _ _ _ c0 _).mono ?_; rintro e w' ⟨rfl, rfl⟩) | (go_at_call 7; refine (pow_any k hk _).mono ?_; rintro e w' ⟨rfl, rfl⟩))
    go_ret
    exact ⟨rfl, Below.refl _ _⟩
  by_cases c4 : p10 k ≤ a1
  · go_enter Try.func5, Try.ntmps5
    go_wp2_with (first | (go_at_call 12; refine (bytes12_yes _ _ _ c0 _).mono ?_; rintro e w' ⟨rfl, rfl⟩) | (go_at_call 7; refine (pow_any k hk _).mono ?_; rintro e w' ⟨rfl, rfl⟩))
    go_ret
    exact ⟨rfl, Below.refl _ _⟩
  have HI : Hid (∀ p : ByteArray, (decide (0 < (p ++ ⟨#[45]⟩ ++ strOfNums (digs k a1)).size) && allID (p ++ ⟨#[45]⟩ ++ strOfNums (digs k a1)).data.toList) = allID p.data.toList) := fun p => id_all p k a1
  have HD : Hid ((decide (0 < (strOfNums (digs k a1)).size) && allID (strOfNums (digs k a1)).data.toList) = decide (1 ≤ (k : Int))) := by
    show _ = _
    rw [digs_all, strOfNums_size, digs_len, Bool.and_true, decide_eq_decide]; omega
  have HZ : Hid ((strOfNums (digs k a1)).size = k) := by show _ = _; rw [strOfNums_size, digs_len]
  have hz : (strOfNums (digs k a1)).size ≤ 4 := by rw [HZ.out]; exact hk
  go_enter Try.func5, Try.ntmps5
  go_wp2_with (first | (go_at_call 12; refine (bytes12_yes _ _ _ c0 _).mono ?_; rintro e w' ⟨rfl, rfl⟩) | (go_at_call 7; refine (pow_any k hk _).mono ?_; rintro e w' ⟨rfl, rfl⟩) | fail)
  refine (zzapp_nil a1 k w.heap.size w hk (by omega) (by omega) (Nat.le_refl _)).mono ?_
  rintro e wa ⟨aa, ca, rfl, oa, ga⟩
  have hcv := conv_own oa
  have HCV : Hid _ := hcv
  have hcv1 := hcv wa (Below.refl _ _)
  clear hcv oa
  generalize hD : strOfNums (digs k a1) = D at *
  clear hD
  have hsz : (a0 ++ ⟨#[45]⟩ ++ D).size ≤ 2097152 := by
    rw [ByteArray.size_append, ByteArray.size_append]
    have : (⟨#[45]⟩ : ByteArray).size = 1 := rfl
    omega
  have HSZ : Hid _ := hsz
  clear hsz
  go_wp2_with fail
  refine (zzvalid_any _ wa HSZ.out _ (HI.out a0)).mono ?_
  rintro e wb ⟨rfl, bb⟩
  have hall := allbytes_any a0 wb c0
  have hcv2 := HCV.out
  clear hcv1 HCV
  cases hr : allID a0.data.toList
  all_goals
    rw [hr] at hall
    have HALL : Hid _ := hall
    clear hall hr
    go_wp2_with fail
    refine Calls.mono HALL.out ?_
    rintro e wc ⟨rfl, rfl⟩
    have hcv3 := hcv2 wb bb
    have HCV2 : Hid _ := hcv2
    clear hcv2
    go_wp2_with fail
    refine (zzvalid_any D wb (by omega) _ HD.out).mono ?_
    rintro e wc ⟨rfl, bc⟩
    go_wp2
    go_ret
    have fin : Below w.heap.size w wc := ((below_of_grown ga).trans (bb.mono ga.size)).trans (bc.mono (Nat.le_trans ga.size bb.size))
    exact ⟨by simp, fin⟩

/-! ### THE ROW's STEP: WRITTEN OUT: LEAVE IT -/
set_option maxRecDepth 100000 in
theorem lifted (os : Os) (started : os.Started) (H : Type) (enc : TypeId × Value → H) :
    ReturnsInHanded {} Try.checked os 5 .any (Rows.fnValidIDKeepsNumberedNamesSpec.pre6 enc Try.prog Try.f5 Rows.fnValidIDKeepsNumberedNamesRow.domain false) (Rows.fnValidIDKeepsNumberedNamesSpec.post enc Try.prog Try.f5 false true false false) := by
  refine returnsInHanded_of_change (C := Try.checked) own started (by kernel_rfl) Try.func5
    (ChangeSpec.witness6 (enc := enc) (C := Try.checked) false ⟨#[], #[.string ByteArray.empty, .int .i64 0, .int .i64 0], []⟩ 8 (by kernel_rfl) (by kernel_rfl) (by kernel_rfl) (by kernel_rfl)) ?_
  intro W base args ds gs before hval0 hW hcnd _
  have hval : ∀ (j : Nat) t v, Try.f5.params[j]? = some t → args[j]? = some v → Value.okWide Try.prog W .any base t v := hval0
  have hW' := hW
  obtain ⟨p, q, hA0, hV, rfl, hfz, hnd⟩ := hW
  have hA : DataW.TrodAll enc Try.prog W 0 (fun _ => true) true Try.f5.params.toList args.toList ds p := hA0
  rw [Try.params5] at hA hval
  obtain ⟨v0, vs0, d0, ds0, p0, q0, hargs, rfl, rfl, h0, r0⟩ := trodAll_cons hA
  obtain ⟨v1, vs1, d1, ds1, p1, q1, rfl, rfl, rfl, h1, r1⟩ := trodAll_cons r0
  obtain ⟨v2, vs2, d2, ds2, p2, q2, rfl, rfl, rfl, h2, r2⟩ := trodAll_cons r1
  obtain ⟨rfl, rfl, rfl⟩ := trodAll_nil r2
  obtain rfl : args = #[v0, v1, v2] := by cases args; simp_all
  obtain ⟨rfl, rfl⟩ := trodVars_none hV
  obtain ⟨a0, rfl, rfl, rfl, w0⟩ := open_string Try.underlying9 (hval 0 9 v0 rfl rfl) h0
  obtain ⟨a1, rfl, rfl, rfl, w1⟩ := open_int Try.underlying3 (hval 1 3 v1 rfl rfl) h1
  obtain ⟨a2, rfl, rfl, rfl, w2⟩ := open_int Try.underlying3 (hval 2 3 v2 rfl rfl) h2
  clear hA0 hval0
  simp only [List.append_nil] at hW'
  refine (walk a0 a1 a2 w0 w1 w2 W).mono fun e W' ⟨he, hg⟩ => ?_
  subst he
  exact ⟨_, rfl, _, _, _, [], _, [], hW', trodAll_mk1 (shut_bool Try.underlying4 _), (trodAll_cons_mk (shut_string Try.underlying9 w0) (trodAll_cons_mk (shut_int Try.underlying3 w1) (trodAll_cons_mk (shut_int Try.underlying3 w2) trodAll_mk0))), rfl, hg.frame _, fun h => by cases h⟩

theorem over : Rows.fnValidIDKeepsNumberedNamesRow.holds Try.pinned (OpenSpec.ofChange Rows.fnValidIDKeepsNumberedNamesSpec) :=
  OpenClaim.holds_of_wide 5 Try.f5 rfl rfl rfl rfl rfl rfl rfl ⟨rfl, rfl, rfl, rfl, rfl⟩ rfl rfl rfl rfl rfl (by kernel_rfl) Try.func5 (by kernel_rfl)
    (of_decide_eq_true (by kernel_rfl)) (by unfold Func.isWrapper; first | (rw [if_pos (by decide +kernel)]; kernel_rfl) | (rw [if_neg (by decide +kernel)]; exact ⟨rfl, rfl⟩))
    (fun os started H enc _ => lifted os started H enc)

/-- ████ THE STATEMENT ████ -/
theorem proved : Rows.FnValidIDKeepsNumberedNamesSaid :=
  over
#print axioms proved
end Go.Proofs.Qxb6605304a.fnValidIDKeepsNumberedNames
