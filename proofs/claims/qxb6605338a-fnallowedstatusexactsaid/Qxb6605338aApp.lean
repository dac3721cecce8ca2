/-
  Seat b6605338a. 'append' onto a block of the call's own with room: the law for the walk.
-/
import Derived.Test.Qxb6605338aOwn
namespace Go.Proofs.Qxb6605338a
open Go.RowKit
set_option linter.unusedVariables false

/-- 'news' laid over f from o on. -/
def over (f : Nat → Value) (o : Nat) (news : List Value) : Nat → Value := fun i => if o ≤ i ∧ i < o + news.length then news.getD (i - o) undef else f i
theorem over_in (f : Nat → Value) (o : Nat) (news : List Value) (j : Nat) (h : j < news.length) : over f o news (o + j) = news[j] := by
  unfold over
  rw [if_pos (by omega)]
  have : o + j - o = j := by omega
  rw [this]
  simp [h]
theorem over_out (f : Nat → Value) (o : Nat) (news : List Value) (i : Nat) (h : i < o ∨ o + news.length ≤ i) : over f o news i = f i := by
  unfold over
  rw [if_neg (by omega)]

theorem Own.setRow {w : World} {g N : Nat} {T : TypeId} {f : Nat → Value} (h : Own w g N T f) (arr : Array Value) (hs : arr.size = N) : Own (w.setRow g arr) g N T (fun i => arr.getD i undef) := by
  obtain ⟨cur, h1, h2, h3⟩ := h
  refine ⟨arr, setRow_heap w g cur _ T _ h1, hs, fun i hi => ?_⟩
  have : i < arr.size := by omega
  simp [this]

theorem run_append_Own {P : Program} (w : World) (t ty e : TypeId) (i : TypeInfo) (size : Nat) (ht : P.underlying t = some (.slice e)) (hi : P.info? e = some i) (hsize : i.size = size)
    (g n cap N : Nat) (f : Nat → Value) (hown : Own w g N e f) (hN : N = cap * size)
    (a : Addr) (m c : Nat) (news : List Value) (hl : news.length = m * size) (hnews : ∀ j u, news[j]? = some u → w.cell? (a.add j) = some u) (h1 : ∀ u ∈ news, u.oneCell' = true)
    (hroom : n + m ≤ cap) :
    ∃ w', (Builtin.append_ #[t, t] ty #[.slice (some ⟨g, 0, none⟩) n cap, .slice (some a) m c]).run P w = .ok (.slice (some ⟨g, 0, none⟩) (n + m) cap) w' ∧
      Own w' g N e (over f (n * size) news) ∧ SameBut g w w' ∧ Below g w w' ∧ w'.heap.size = w.heap.size := by
  subst hsize
  have hown' := hown
  obtain ⟨cur, hc1, hc2, hc3⟩ := hown
  have hle : (n + m) * i.size ≤ cap * i.size := Nat.mul_le_mul_right _ hroom
  rw [Nat.add_mul] at hle
  have hfit : n * i.size + news.length ≤ cur.size := by omega
  have hr := run_append_room (P := P) w t ty e i ht hi g n cap cur hc1 a m c news hl hnews h1 hroom hfit
  have hsz : (cur.toList.take (n * i.size) ++ news ++ cur.toList.drop (n * i.size + news.length)).toArray.size = N := by
    simp; omega
  refine ⟨_, hr, (hown'.setRow _ hsz).congr ?_, fun k hk => setRow_other w g k _ hk, ⟨rfl, rfl, rfl, by simp, fun k hk => setRow_other w g k _ (by omega)⟩, by simp⟩
  intro j hj
  unfold over
  have hcl : cur.toList.length = N := by simpa using hc2
  by_cases h : n * i.size ≤ j ∧ j < n * i.size + news.length
  · rw [if_pos h]
    simp only [Array.getD_eq_getD_getElem?, List.getElem?_toArray, List.getD_eq_getElem?_getD]
    rw [List.append_assoc, List.getElem?_append_right (by simp; omega)]
    have e1 : (cur.toList.take (n * i.size)).length = n * i.size := by simp; omega
    rw [e1, List.getElem?_append_left (by omega)]
  · rw [if_neg h]
    have hj3 := hc3 j hj
    simp only [Array.getD_eq_getD_getElem?, List.getElem?_toArray]
    by_cases hlo : j < n * i.size
    · rw [List.append_assoc, List.getElem?_append_left (by simp; omega), List.getElem?_take_of_lt hlo]
      simp [hj3]
    · have e1 : (cur.toList.take (n * i.size)).length = n * i.size := by simp; omega
      rw [List.append_assoc, List.getElem?_append_right (by omega), e1, List.getElem?_append_right (by omega), List.getElem?_drop]
      have : n * i.size + news.length + (j - n * i.size - news.length) = j := by omega
      rw [this]
      simp [hj3]

theorem wpList_append_Own {P : Program} (w : World) {ops : Array Oper} {rest : List Oper} {o : Oper} {a : Act} {Q : Exit → Act → World → Prop} (hgd : o.guard = none) (s x : Operand) (t : TypeId)
    (ho : o.op = .call { callee := .builtin .append, args := #[s, x], argTypes := #[t, t] })
    (e : TypeId) (i : TypeInfo) (size : Nat) (ht : P.underlying t = some (.slice e)) (hi : P.info? e = some i) (hsize : i.size = size)
    (g n cap N : Nat) (f : Nat → Value) (hs : a.eval s = .slice (some ⟨g, 0, none⟩) n cap) (hown : Own w g N e f) (hN : N = cap * size)
    (ad : Addr) (m c : Nat) (news : List Value) (hx : a.eval x = .slice (some ad) m c) (hl : news.length = m * size) (hnews : ∀ j u, news[j]? = some u → w.cell? (ad.add j) = some u) (h1 : ∀ u ∈ news, u.oneCell' = true)
    (hroom : n + m ≤ cap)
    (h : ∀ w', Own w' g N e (over f (n * size) news) → SameBut g w w' → Below g w w' → w'.heap.size = w.heap.size → wpList P ops Q rest (a.put o.dst (.slice (some ⟨g, 0, none⟩) (n + m) cap)) w') : wpList P ops Q (o :: rest) a w := by
  refine wpList_plain hgd fun K hK => ?_
  obtain ⟨w', hr, h2, h3, h4, h5⟩ := run_append_Own (P := P) w t o.type e i size ht hi hsize g n cap N f hown hN ad m c news hl hnews h1 hroom
  unfold Oper.wp execOp
  simp only [ho, resolve, invoke, builtin, Sem.run_bind, Sem.run_pure, Result.andThen_ok, List.map_toArray, List.map_cons, List.map_nil, hs, hx, hr]
  exact hK _ _ (h w' h2 h3 h4 h5)
end Go.Proofs.Qxb6605338a
