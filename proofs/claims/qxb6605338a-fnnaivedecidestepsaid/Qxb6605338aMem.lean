/-
  Seat b6605338a. What the walks are told of memory: rows of structs of three integers; rows of heard entries; a message behind a pointer.
-/
import Derived.Test.Qxb6605338aRows
import Derived.WalkKit
import Derived.WalkSpells
import Derived.WalkSmall
import Derived.Deep.QuietTactic
import Derived.BigQuiet
namespace Go.Proofs.Qxb6605338a
open Go.RowKit
set_option linter.unusedVariables false

/-- A row of n structs of three integers, at a: A, B, C by index. -/
def Row3 (k0 k1 k2 : IntKind) (w : World) (a : Option Addr) (n : Nat) (A B C : Nat → Int) : Prop :=
  n = 0 ∨ ∃ b o, a = some ⟨b, o, none⟩ ∧ ∀ i, i < n → w.cell? ⟨b, o + i * 3, none⟩ = some (.int k0 (A i)) ∧ w.cell? ⟨b, o + i * 3 + 1, none⟩ = some (.int k1 (B i)) ∧ w.cell? ⟨b, o + i * 3 + 2, none⟩ = some (.int k2 (C i))

/-- A row of n heard entries, at a. -/
def Row4 (w : World) (a : Option Addr) (n : Nat) (A B C : Nat → Int) (pa : Nat → Option Addr) (pn pc : Nat → Nat) : Prop :=
  n = 0 ∨ ∃ b o, a = some ⟨b, o, none⟩ ∧ ∀ i, i < n → w.cell? ⟨b, o + i * 4, none⟩ = some (.int .i64 (A i)) ∧ w.cell? ⟨b, o + i * 4 + 1, none⟩ = some (.int .u64 (B i)) ∧ w.cell? ⟨b, o + i * 4 + 2, none⟩ = some (.int .u64 (C i)) ∧
    w.cell? ⟨b, o + i * 4 + 3, none⟩ = some (.slice (pa i) (pn i) (pc i))

/-- What a message holds. -/
structure Msg where
  frm : Int
  dst : Int
  rnd : Int
  num : Int
  val : ByteArray
  stamp : Int
  sa : Option Addr
  sn : Nat
  sc : Nat
  SA : Nat → Int
  SR : Nat → Int
  SP : Nat → Int
  ha : Option Addr
  hn : Nat
  hc : Nat
  HA : Nat → Int
  HN : Nat → Int
  HS : Nat → Int
  pa : Nat → Option Addr
  pn : Nat → Nat
  pc : Nat → Nat
  PA : Nat → Nat → Int
  PN : Nat → Nat → Int
  PS : Nat → Nat → Int

/-- The status row and the heard rows of a message. -/
structure Rows2 (w : World) (m : Msg) : Prop where
  st : Row3 .i64 .i64 .i64 w m.sa m.sn m.SA m.SR m.SP
  hd : Row4 w m.ha m.hn m.HA m.HN m.HS m.pa m.pn m.pc
  ps : ∀ i, i < m.hn → Row3 .i64 .u64 .u64 w (m.pa i) (m.pn i) (m.PA i) (m.PN i) (m.PS i)

/-- A slice header: nil has no elements. -/
def Head (a : Option Addr) (n c : Nat) : Prop := n ≤ c ∧ c ≤ maxLen ∧ (a = none → n = 0 ∧ c = 0)

/-- A message at block b, offset o. -/
structure IsMsg (w : World) (b o : Nat) (m : Msg) : Prop where
  c0 : w.cell? ⟨b, o, none⟩ = some (.int .i64 m.frm)
  c1 : w.cell? ⟨b, o + 1, none⟩ = some (.int .i64 m.dst)
  c2 : w.cell? ⟨b, o + 2, none⟩ = some (.int .i64 m.rnd)
  c3 : w.cell? ⟨b, o + 3, none⟩ = some (.int .u64 m.num)
  c4 : w.cell? ⟨b, o + 4, none⟩ = some (.string m.val)
  c5 : w.cell? ⟨b, o + 5, none⟩ = some (.int .u64 m.stamp)
  c6 : w.cell? ⟨b, o + 6, none⟩ = some (.slice m.sa m.sn m.sc)
  c7 : w.cell? ⟨b, o + 7, none⟩ = some (.slice m.ha m.hn m.hc)
  rows : Rows2 w m
  vl : m.val.size ≤ maxLen
  sh : Head m.sa m.sn m.sc
  hh : Head m.ha m.hn m.hc
  ph : ∀ i, i < m.hn → Head (m.pa i) (m.pn i) (m.pc i)

/-- A cell that is there stays there while nothing below the heap's end turns. -/
theorem keep {W w' : World} (hb : Below W.heap.size W w') {a : Addr} {v : Value} (h : W.cell? a = some v) : w'.cell? a = some v :=
  (hb.cell (World.block_lt_of_cell? W _ h)).trans h

theorem Row3.keep {k0 k1 k2 : IntKind} {W w' : World} (hb : Below W.heap.size W w') {a : Option Addr} {n : Nat} {A B C : Nat → Int} (h : Row3 k0 k1 k2 W a n A B C) : Row3 k0 k1 k2 w' a n A B C := by
  rcases h with h | ⟨b, o, ha, h⟩
  · exact .inl h
  · exact .inr ⟨b, o, ha, fun i hi => ⟨Qxb6605338a.keep hb (h i hi).1, Qxb6605338a.keep hb (h i hi).2.1, Qxb6605338a.keep hb (h i hi).2.2⟩⟩
theorem Row4.keep {W w' : World} (hb : Below W.heap.size W w') {a : Option Addr} {n : Nat} {A B C : Nat → Int} {pa : Nat → Option Addr} {pn pc : Nat → Nat} (h : Row4 W a n A B C pa pn pc) : Row4 w' a n A B C pa pn pc := by
  rcases h with h | ⟨b, o, ha, h⟩
  · exact .inl h
  · exact .inr ⟨b, o, ha, fun i hi => ⟨Qxb6605338a.keep hb (h i hi).1, Qxb6605338a.keep hb (h i hi).2.1, Qxb6605338a.keep hb (h i hi).2.2.1, Qxb6605338a.keep hb (h i hi).2.2.2⟩⟩
theorem Rows2.keep {W w' : World} (hb : Below W.heap.size W w') {m : Msg} (h : Rows2 W m) : Rows2 w' m := ⟨h.st.keep hb, h.hd.keep hb, fun i hi => (h.ps i hi).keep hb⟩
theorem IsMsg.keep {W w' : World} (hb : Below W.heap.size W w') {b o : Nat} {m : Msg} (h : IsMsg W b o m) : IsMsg w' b o m :=
  ⟨Qxb6605338a.keep hb h.c0, Qxb6605338a.keep hb h.c1, Qxb6605338a.keep hb h.c2, Qxb6605338a.keep hb h.c3, Qxb6605338a.keep hb h.c4, Qxb6605338a.keep hb h.c5, Qxb6605338a.keep hb h.c6, Qxb6605338a.keep hb h.c7, h.rows.keep hb, h.vl, h.sh, h.hh, h.ph⟩

theorem below_drewN' (w : World) (q : Nat) : Below w.heap.size w (w.drewN q) := below_drewN (Below.refl _ _) q
end Go.Proofs.Qxb6605338a
