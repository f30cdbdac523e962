import Derived.Test.Qxb6612677aRows
import Derived.WalkKit
import Derived.Below
namespace Go.Proofs.Qxb6612677a
open Go.RowKit

/-- A member: its key, its start, its end. -/
abbrev M : Type := ByteArray × Int × Int
def m0 : M := (⟨#[]⟩, 0, 0)
/-- Has the member the key? -/
def hit (key : ByteArray) (m : M) : Bool := m.1.toList == key.toList
/-- The cells of a row of members. -/
def mcells : List M → List Value
  | [] => []
  | m :: ms => .string m.1 :: .int .i64 m.2.1 :: .int .i64 m.2.2 :: mcells ms

theorem mcells_append (a b : List M) : mcells (a ++ b) = mcells a ++ mcells b := by
  induction a with
  | nil => rfl
  | cons m a ih => simp [mcells, ih]

theorem mcells_length (a : List M) : (mcells a).length = a.length * 3 := by
  induction a with
  | nil => rfl
  | cons m a ih => simp [mcells, ih]; omega

theorem mcells_at (a : List M) (j : Nat) (h : j < a.length) :
    (mcells a)[j * 3]? = some (.string (a.getD j m0).1) ∧ (mcells a)[j * 3 + 1]? = some (.int .i64 (a.getD j m0).2.1) ∧ (mcells a)[j * 3 + 2]? = some (.int .i64 (a.getD j m0).2.2) := by
  induction a generalizing j with
  | nil => simp at h
  | cons m a ih =>
    cases j with
    | zero => simp [mcells]
    | succ j =>
      have := ih j (by simpa using h)
      rw [show (j + 1) * 3 = j * 3 + 1 + 1 + 1 by omega]
      simp only [mcells, List.getElem?_cons_succ, List.getD_cons_succ]
      exact this

/-- A row of members at offset 'off' of block b. -/
def Rows3 (w : World) (b off : Nat) (ms : List M) : Prop :=
  ∀ j, j < ms.length → w.cell? ⟨b, off + j * 3, none⟩ = some (.string (ms.getD j m0).1) ∧ w.cell? ⟨b, off + j * 3 + 1, none⟩ = some (.int .i64 (ms.getD j m0).2.1) ∧ w.cell? ⟨b, off + j * 3 + 2, none⟩ = some (.int .i64 (ms.getD j m0).2.2)

theorem Rows3.below {w w' : World} {b off : Nat} {ms : List M} (h : Rows3 w b off ms) (hb : Below w.heap.size w w') : Rows3 w' b off ms := by
  intro j hj
  obtain ⟨h1, h2, h3⟩ := h j hj
  exact ⟨(hb.cell (World.block_lt_of_cell? w _ h1)).trans h1, (hb.cell (World.block_lt_of_cell? w _ h2)).trans h2, (hb.cell (World.block_lt_of_cell? w _ h3)).trans h3⟩

theorem Rows3.lt {w : World} {b off : Nat} {ms : List M} (h : Rows3 w b off ms) (hn : 0 < ms.length) : b < w.heap.size := World.block_lt_of_cell? w _ (h 0 hn).1

/-- What the call owns, read as a row of members. -/
theorem rows3_of_own {w : World} {base g c n : Nat} {ms : List M} (h : w.ownsRow base 47 3 (.slice (some ⟨g, 0, none⟩) n c) n (mcells ms)) : Rows3 w g 0 ms := by
  have hl : n * 3 = ms.length * 3 := by have := h.1; rw [mcells_length] at this; omega
  intro j hj
  obtain ⟨h1, h2, h3⟩ := mcells_at ms j hj
  rw [Nat.zero_add]
  exact ⟨(h.cellAt _ (by omega)).trans h1, (h.cellAt _ (by omega)).trans h2, (h.cellAt _ (by omega)).trans h3⟩
end Go.Proofs.Qxb6612677a
