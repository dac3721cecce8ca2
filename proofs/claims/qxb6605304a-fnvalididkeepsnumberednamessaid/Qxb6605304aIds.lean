/-
  Seat b6605304a. 'lawIDByte' (17), 'lawAllIDBytes' (14), 'validID' (16), 'ZZvalidID' (13), 'zzBytes_FnValidIDKeepsNumberedNames' (12).
-/
import Derived.Test.Qxb6605304aDigits
import Derived.Deep.QuietTactic
import Derived.BigQuiet
namespace Go.Proofs.Qxb6605304a
open Go.RowKit
set_option linter.unusedVariables false

def idB (c : Int) : Bool := decide ((97 ≤ c ∧ c ≤ 122) ∨ (65 ≤ c ∧ c ≤ 90) ∨ (48 ≤ c ∧ c ≤ 57) ∨ c = 45 ∨ c = 95)
theorem idB_high {c : Int} (h : 128 ≤ c) : idB c = false := by simp [idB]; omega
def allID (l : List UInt8) : Bool := l.all fun b => idB b.toNat
theorem allID_append (a b : List UInt8) : allID (a ++ b) = (allID a && allID b) := by simp [allID]

theorem ret_bool {a b : Bool} (h : a = b) : Ending.returned (.bool a) = .returned (.bool b) := by rw [h]

set_option maxHeartbeats 400000 in
theorem idbyte_any (c : Int) (h0 : 0 ≤ c) (h1 : c ≤ 255) (w : World) :
    Calls Try.prog 17 #[.int .u8 c] w fun e w' => e = .returned (.bool (idB c)) ∧ w = w' := by
  obtain ⟨r, hr⟩ : ∃ r, r = idB c := ⟨_, rfl⟩
  have HR : Hid (r = idB c) := hr
  rw [← hr]
  clear hr
  go_enter Try.func17, Try.ntmps17
  go_wp2
  all_goals
    go_ret
    refine ⟨ret_bool ?_, rfl⟩
    rw [HR.out, Bool.eq_iff_iff]
    simp [idB]
    try omega

theorem bytes12_yes (s : ByteArray) (n k : Int) (h : s.size ≤ 1048576) (w : World) :
    Calls Try.prog 12 #[.string s, .int .i64 n, .int .i64 k] w fun e w' => e = .returned (.bool true) ∧ w = w' := by
  have h' : (s.size : Int) ≤ 1048576 := by omega
  go_enter Try.func12, Try.ntmps12
  go_wp2
  go_ret
  exact ⟨rfl, rfl⟩
theorem bytes12_no (s : ByteArray) (n k : Int) (h : ¬ s.size ≤ 1048576) (w : World) :
    Calls Try.prog 12 #[.string s, .int .i64 n, .int .i64 k] w fun e w' => e = .returned (.bool false) ∧ w = w' := by
  have h' : (1048576 : Int) < s.size := by omega
  go_enter Try.func12, Try.ntmps12
  go_wp2
  go_ret
  exact ⟨rfl, rfl⟩

theorem take_snoc (s : ByteArray) (k : Nat) (h : k < s.size) : s.data.toList.take (k + 1) = s.data.toList.take k ++ [s[k]] := by
  rw [List.take_succ_eq_append_getElem (by simpa using h)]; rfl
theorem all_step (s : ByteArray) (k : Nat) (h : k < s.size) (h0 : allID (s.data.toList.take k) = true) (h1 : idB (s[k].toNat : Int) = true) : allID (s.data.toList.take (k + 1)) = true := by
  rw [take_snoc s k h, allID_append, h0]; simp [allID, h1]
theorem all_stop (s : ByteArray) (k : Nat) (h : k < s.size) (h1 : idB (s[k].toNat : Int) = false) : allID s.data.toList = false := by
  have e : s.data.toList = s.data.toList.take (k + 1) ++ s.data.toList.drop (k + 1) := (List.take_append_drop _ _).symm
  rw [e, allID_append, take_snoc s k h, allID_append]
  simp [allID, h1]
theorem all_end (s : ByteArray) (k : Nat) (h : s.size ≤ k) (h0 : allID (s.data.toList.take k) = true) : allID s.data.toList = true := by
  rwa [List.take_of_length_le (by simpa using h)] at h0

set_option maxHeartbeats 400000 in
theorem allbytes_any (s : ByteArray) (w : World) (hs : s.size ≤ 1048576) :
    Calls Try.prog 14 #[.string s] w fun e w' => e = .returned (.bool (allID s.data.toList)) ∧ w = w' := by
  obtain ⟨r, hr⟩ : ∃ r, r = allID s.data.toList := ⟨_, rfl⟩
  have HR : Hid (r = allID s.data.toList) := hr
  rw [← hr]
  clear hr
  go_enter Try.func14, Try.ntmps14
  go_wp2
  go_loop [3] (fun i => ∃ k : Nat, k ≤ s.size ∧ i = .int .i64 k ∧ Hid (allID (s.data.toList.take k) = true)) (fun i => s.size - (intOf i).toNat)
  case atStart => exact ⟨0, Nat.zero_le _, rfl, rfl⟩
  case round =>
    obtain ⟨k, hk, rfl, HK⟩ := hrel
    by_cases hlt : k < s.size
    · have hb : (s[k].toNat : Int) ≤ 255 := by have := s[k].toNat_lt; omega
      have hb0 : 0 ≤ (s[k].toNat : Int) := by omega
      cases hid : idB (s[k].toNat : Int) with
      | false =>
        have HI : Hid (r = false) := HR.out.trans (all_stop s k hlt hid)
        have HX : Hid (idB (s[k].toNat : Int) = false) := hid
        clear hid
        go_wp2_with (go_at_call 17; refine (idbyte_any _ hb0 hb _).mono ?_; rintro e w' ⟨rfl, rfl⟩; rw [HX.out])
        go_ret
        exact ⟨ret_bool HI.out.symm, rfl⟩
      | true =>
        have HI : Hid (allID (s.data.toList.take (k + 1)) = true) := all_step s k hlt HK.out hid
        have HX : Hid (idB (s[k].toNat : Int) = true) := hid
        clear hid
        go_wp2_with (go_at_call 17; refine (idbyte_any _ hb0 hb _).mono ?_; rintro e w' ⟨rfl, rfl⟩; rw [HX.out])
        go_round
        case rel => exact ⟨k + 1, by omega, by go_num, HI⟩
        case measure => simp [intOf]; omega
    · go_wp2
      go_ret
      exact ⟨ret_bool (HR.out.trans (all_end s k (by omega) HK.out)).symm, rfl⟩

theorem idB_yes {c : Int} (h : idB c = true) : (97 ≤ c ∧ c ≤ 122) ∨ (65 ≤ c ∧ c ≤ 90) ∨ (48 ≤ c ∧ c ≤ 57) ∨ (45 ≤ c ∧ c ≤ 45) ∨ (95 ≤ c ∧ c ≤ 95) := by
  simp [idB] at h; omega
theorem idB_no {c : Int} (h : idB c = false) : (c ≤ 44 ∧ c ≤ 44) ∨ (46 ≤ c ∧ c ≤ 47) ∨ (58 ≤ c ∧ c ≤ 64) ∨ (91 ≤ c ∧ c ≤ 94) ∨ (96 ≤ c ∧ c ≤ 96) ∨ (123 ≤ c ∧ 123 ≤ c) := by
  simp [idB] at h; omega

/-- What the range hands over at pos, as the law's own byte test sees it. -/
theorem rune_step (s : ByteArray) (pos : Nat) (h : pos < s.size) (hk : allID (s.data.toList.take pos) = true) (hid : idB ((Utf8.decode s pos).1 : Int) = true) :
    allID (s.data.toList.take (pos + (Utf8.decode s pos).2)) = true ∧ (Utf8.decode s pos).2 = 1 := by
  by_cases ha : (s[pos]'h).toNat < 128
  · have e := decode_ascii s pos h ha
    rw [e] at hid ⊢
    exact ⟨all_step s pos h hk hid, rfl⟩
  · have := (decode_high s pos h (by omega)).1
    rw [idB_high (by omega)] at hid
    cases hid
theorem rune_stop (s : ByteArray) (pos : Nat) (h : pos < s.size) (hid : idB ((Utf8.decode s pos).1 : Int) = false) : allID s.data.toList = false := by
  by_cases ha : (s[pos]'h).toNat < 128
  · have e := decode_ascii s pos h ha
    rw [e] at hid
    exact all_stop s pos h hid
  · exact all_stop s pos h (idB_high (by omega))

theorem valid_empty (s : ByteArray) (hs : s.size = 0) (w : World) :
    Calls Try.prog 16 #[.string s] w fun e w' => e = .returned (.bool false) ∧ w = w' := by
  have e : s = ByteArray.empty := by
    apply ByteArray.ext
    apply Array.ext'
    apply List.eq_nil_of_length_eq_zero
    simpa using hs
  subst e
  go_enter Try.func16, Try.ntmps16
  go_wp2
  go_ret
  exact ⟨rfl, rfl⟩

set_option maxHeartbeats 1000000 in
theorem valid_some (s : ByteArray) (w : World) (hs0 : 0 < s.size) (hs : s.size ≤ 2097152) :
    Calls Try.prog 16 #[.string s] w fun e w' => e = .returned (.bool (allID s.data.toList)) ∧ Below w.heap.size w w' := by
  obtain ⟨r, hr⟩ : ∃ r, r = allID s.data.toList := ⟨_, rfl⟩
  have HR : Hid (r = allID s.data.toList) := hr
  rw [← hr]
  clear hr
  have hne : s.toList.isEmpty = false := by
    rw [ByteArray.toList_eq]
    cases h : s.data.toList with
    | nil => have := congrArg List.length h; simp at this; rw [this] at hs0; exact absurd hs0 (by decide)
    | cons a l => rfl
  go_enter Try.func16, Try.ntmps16
  go_wp2
  go_loopw [4] (fun _ wr => ∃ pos : Nat, wr = w.iter s pos ∧ Hid (allID (s.data.toList.take pos) = true)) (fun _ wr => s.size - wr.iterPos w.heap.size)
  case atStart => exact ⟨0, rfl, rfl⟩
  case round =>
    obtain ⟨pos, rfl, HK⟩ := hrel
    by_cases hlt : pos < s.size
    · have hnx : ∀ ty, (Instr.next (.pointer (some ⟨w.heap.size, 0, none⟩)) true ty).run Try.prog (w.iter s pos) = .ok (.tuple #[.bool true, .int .i64 pos, .int .i32 (Utf8.decode s pos).1]) (w.iter s (pos + (Utf8.decode s pos).2)) := fun ty => run_next_any w s pos ty hlt
      have S1 := rune_step s pos hlt HK.out
      have S2 := rune_stop s pos hlt
      have hcb : ((Utf8.decode s pos).1 : Int) ≤ 2147483647 := by have := decode_le s pos; omega
      have hcb0 : 0 ≤ ((Utf8.decode s pos).1 : Int) := by omega
      generalize ((Utf8.decode s pos).1 : Int) = c at hnx S1 S2 hcb hcb0
      generalize (Utf8.decode s pos).2 = d at hnx S1
      cases hid : idB c with
      | false =>
        have HI : Hid (r = false) := HR.out.trans (S2 hid)
        rcases idB_no hid with h | h | h | h | h | h
        all_goals
          obtain ⟨h1, h2⟩ := h
          have e1 : (c == 45) = false := by simp; omega
          have e2 : (c == 95) = false := by simp; omega
          clear hid S1 S2
          go_wp2
          all_goals first | (go_ret; exact ⟨ret_bool HI.out.symm, (Below.refl _ _).alloc (Nat.le_refl _) _⟩) | (exfalso; rename_i hq; simp at hq; omega) | (exfalso; rename_i hp hq; simp at hp; omega)
      | true =>
        obtain ⟨S3, rfl⟩ := S1 hid
        have HI : Hid (allID (s.data.toList.take (pos + 1)) = true) := S3
        rcases idB_yes hid with h | h | h | h | h
        all_goals
          obtain ⟨h1, h2⟩ := h
          clear hid S1 S2 S3
          go_wp2
          all_goals first | (refine ⟨⟨pos + 1, rfl, HI⟩, ?_⟩; simp; omega) | (exfalso; rename_i hq; simp at hq; omega) | (exfalso; rename_i hp hq; simp at hp; omega)
    · have hnx : ∀ ty, (Instr.next (.pointer (some ⟨w.heap.size, 0, none⟩)) true ty).run Try.prog (w.iter s pos) = .ok (.tuple #[.bool false]) (w.iter s pos) := fun ty => run_next_end w s pos ty hlt
      go_wp2
      go_ret
      exact ⟨ret_bool (HR.out.trans (all_end s pos (by omega) HK.out)).symm, (Below.refl _ _).alloc (Nat.le_refl _) _⟩

/-- validID, and its front ZZvalidID, at every string of at most 1<<21 bytes. -/
theorem valid_any (s : ByteArray) (w : World) (hs : s.size ≤ 2097152) :
    Calls Try.prog 16 #[.string s] w fun e w' => e = .returned (.bool (decide (0 < s.size) && allID s.data.toList)) ∧ Below w.heap.size w w' := by
  by_cases h : 0 < s.size
  · refine (valid_some s w h hs).mono ?_
    rintro e w' ⟨rfl, hb⟩
    exact ⟨by simp [h], hb⟩
  · refine (valid_empty s (by omega) w).mono ?_
    rintro e w' ⟨rfl, rfl⟩
    exact ⟨by simp [h], Below.refl _ _⟩
theorem zzvalid_any (s : ByteArray) (w : World) (hs : s.size ≤ 2097152) (r : Bool) (hr : (decide (0 < s.size) && allID s.data.toList) = r) :
    Calls Try.prog 13 #[.string s] w fun e w' => e = .returned (.bool r) ∧ Below w.heap.size w w' := by
  have HR := hr
  have hv := valid_any s w hs
  rw [hr] at hv
  have HV : Hid _ := hv
  clear hv hr HR
  go_enter Try.func13, Try.ntmps13
  go_wp2_with (go_at_call 16; refine Calls.mono HV.out ?_; rintro e w' ⟨rfl, hb⟩)
  go_ret
  exact ⟨rfl, hb⟩
end Go.Proofs.Qxb6605304a
