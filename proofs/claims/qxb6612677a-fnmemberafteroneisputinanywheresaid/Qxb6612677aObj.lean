import Derived.Test.Qxb6612677aGuards
namespace Go.Proofs.Qxb6612677a
open Go.RowKit

/-- The variable of an object at block B: its fields, not frozen; what its members own. -/
structure Obj5 (w : World) (B : Nat) (le : Int) (nl ind un : ByteArray) (ms : List M) (ao : Option Addr) (k c : Nat) : Prop where
  own : w.ownsRow (B + 1) 47 3 (.slice ao k c) k (mcells ms)
  c0 : w.cell? ⟨B, 0, none⟩ = some (.slice ao k c)
  c1 : w.cell? ⟨B, 1, none⟩ = some (.int .i64 le)
  c2 : w.cell? ⟨B, 2, none⟩ = some (.string nl)
  c3 : w.cell? ⟨B, 3, none⟩ = some (.string ind)
  c4 : w.cell? ⟨B, 4, none⟩ = some (.string un)
  f : ∀ j, w.frozen? ⟨B, j, none⟩ = false

theorem own_below {w w' : World} {base n : Nat} {v : Value} {xs : List Value} (h : w.ownsRow base 47 3 v n xs) (hb : Below w.heap.size w w') : w'.ownsRow base 47 3 v n xs :=
  h.kept (row := none) ⟨hb.os, hb.tape, hb.output, hb.size, fun k hk _ => hb.block k hk⟩ (by cases hv : v.ownBlock <;> simp)

theorem Obj5.lt {w : World} {B : Nat} {le : Int} {nl ind un : ByteArray} {ms : List M} {ao : Option Addr} {k c : Nat} (h : Obj5 w B le nl ind un ms ao k c) : B < w.heap.size :=
  World.block_lt_of_cell? w _ h.c0

theorem Obj5.below {w w' : World} {B : Nat} {le : Int} {nl ind un : ByteArray} {ms : List M} {ao : Option Addr} {k c : Nat} (h : Obj5 w B le nl ind un ms ao k c) (hb : Below w.heap.size w w') : Obj5 w' B le nl ind un ms ao k c :=
  have hB := h.lt
  ⟨own_below h.own hb, (hb.cell (by exact hB)).trans h.c0, (hb.cell (by exact hB)).trans h.c1, (hb.cell (by exact hB)).trans h.c2, (hb.cell (by exact hB)).trans h.c3, (hb.cell (by exact hB)).trans h.c4, fun j => (hb.frozen (by exact hB)).trans (h.f j)⟩

/-- The variable as the law lays it: two new blocks, the second is the variable. -/
theorem obj_start (w : World) (le : Int) (nl ind un : ByteArray) :
    Obj5 ((w.alloc (.cells #[.slice none 0 0, .int .i64 le, .string nl, .string ind, .string un] 28)).alloc (.cells #[.slice none 0 0, .int .i64 le, .string nl, .string ind, .string un] 28)) (w.heap.size + 1) le nl ind un [] none 0 0 ∧
      Below w.heap.size w ((w.alloc (.cells #[.slice none 0 0, .int .i64 le, .string nl, .string ind, .string un] 28)).alloc (.cells #[.slice none 0 0, .int .i64 le, .string nl, .string ind, .string un] 28)) := by
  refine ⟨⟨World.ownsRow_nil _ _ _ _, by simp [go_sem], by simp [go_sem], by simp [go_sem], by simp [go_sem], by simp [go_sem], fun j => by simp [go_sem]⟩, ?_⟩
  exact ((Below.refl _ _).alloc (Nat.le_refl _) _).alloc (by simp) _

/-- The store of the object that ZZwithMember has handed back. -/
theorem obj_step {w w' : World} {B : Nat} {le : Int} {nl ind un : ByteArray} {ms : List M} {ao : Option Addr} {k c g c' : Nat} {mk : ByteArray} {st en : Int} (h : Obj5 w B le nl ind un ms ao k c)
    (hown : w'.ownsRow (B + 1) 47 3 (.slice (some ⟨g, 0, none⟩) (k + 1) c') (k + 1) (mcells ms ++ [.string mk, .int .i64 st, .int .i64 en])) (hb : Below (B + 1) w.drew w') (ms' : List M) (hms : ms' = ms ++ [(mk, st, en)]) :
    Obj5 (((((w'.setCell ⟨B, 0, none⟩ (.slice (some ⟨g, 0, none⟩) (k + 1) c')).setCell ⟨B, 1, none⟩ (.int .i64 le)).setCell ⟨B, 2, none⟩ (.string nl)).setCell ⟨B, 3, none⟩ (.string ind)).setCell ⟨B, 4, none⟩ (.string un)) B le nl ind un ms' (some ⟨g, 0, none⟩) (k + 1) c' ∧
    ∀ (W : World) (N : Nat), N ≤ B → Below N W w → Below N W (((((w'.setCell ⟨B, 0, none⟩ (.slice (some ⟨g, 0, none⟩) (k + 1) c')).setCell ⟨B, 1, none⟩ (.int .i64 le)).setCell ⟨B, 2, none⟩ (.string nl)).setCell ⟨B, 3, none⟩ (.string ind)).setCell ⟨B, 4, none⟩ (.string un)) := by
  subst hms
  have hg : (Value.slice (some ⟨g, 0, none⟩) (k + 1) c').ownBlock ≠ some B := by
    have := (hown.lt g rfl).1
    simp [Value.ownBlock]; omega
  have hBl : B < B + 1 := Nat.lt_succ_self _
  have d0 : w'.cell? ⟨B, 0, none⟩ = some (.slice ao k c) := (hb.cell (by exact hBl)).trans h.c0
  have d1 : w'.cell? ⟨B, 1, none⟩ = some (.int .i64 le) := (hb.cell (by exact hBl)).trans h.c1
  have d2 : w'.cell? ⟨B, 2, none⟩ = some (.string nl) := (hb.cell (by exact hBl)).trans h.c2
  have d3 : w'.cell? ⟨B, 3, none⟩ = some (.string ind) := (hb.cell (by exact hBl)).trans h.c3
  have d4 : w'.cell? ⟨B, 4, none⟩ = some (.string un) := (hb.cell (by exact hBl)).trans h.c4
  have fr : ∀ j, w'.frozen? ⟨B, j, none⟩ = false := fun j => (hb.frozen (by exact hBl)).trans (h.f j)
  refine ⟨⟨?_, ?_, ?_, ?_, ?_, ?_, ?_⟩, fun W N hN hW => ?_⟩
  · rw [mcells_append]
    exact ownsRow_setCell_other (ownsRow_setCell_other (ownsRow_setCell_other (ownsRow_setCell_other (ownsRow_setCell_other hown (a := ⟨B, 0, none⟩) hg _) (a := ⟨B, 1, none⟩) hg _) (a := ⟨B, 2, none⟩) hg _) (a := ⟨B, 3, none⟩) hg _) (a := ⟨B, 4, none⟩) hg _
  · simp [go_sem, d0]
  · simp [go_sem, d1]
  · simp [go_sem, d2]
  · simp [go_sem, d3]
  · simp [go_sem, d4]
  · intro j; simp [go_sem, fr]
  · exact (((((hW.trans ((Below.refl N w).drew.trans (hb.mono (by omega)))).setCell (p := ⟨B, 0, none⟩) hN _).setCell (p := ⟨B, 1, none⟩) hN _).setCell (p := ⟨B, 2, none⟩) hN _).setCell (p := ⟨B, 3, none⟩) hN _).setCell (p := ⟨B, 4, none⟩) hN _

/-- The variable behind the call of ZZwithMember. -/
theorem obj_after {w w' : World} {B : Nat} {le : Int} {nl ind un : ByteArray} {ms : List M} {ao : Option Addr} {k c : Nat} (h : Obj5 w B le nl ind un ms ao k c) (hb : Below (B + 1) w.drew w') :
    w'.cell? ⟨B, 0, none⟩ = some (.slice ao k c) ∧ w'.cell? ⟨B, 1, none⟩ = some (.int .i64 le) ∧ w'.cell? ⟨B, 2, none⟩ = some (.string nl) ∧ w'.cell? ⟨B, 3, none⟩ = some (.string ind) ∧ w'.cell? ⟨B, 4, none⟩ = some (.string un) ∧
      w'.frozen? ⟨B, 0, none⟩ = false ∧ w'.frozen? ⟨B, 1, none⟩ = false ∧ w'.frozen? ⟨B, 2, none⟩ = false ∧ w'.frozen? ⟨B, 3, none⟩ = false ∧ w'.frozen? ⟨B, 4, none⟩ = false := by
  have hBl : B < B + 1 := Nat.lt_succ_self _
  have fr : ∀ j, w'.frozen? ⟨B, j, none⟩ = false := fun j => (hb.frozen (by exact hBl)).trans (h.f j)
  exact ⟨(hb.cell (by exact hBl)).trans h.c0, (hb.cell (by exact hBl)).trans h.c1, (hb.cell (by exact hBl)).trans h.c2, (hb.cell (by exact hBl)).trans h.c3, (hb.cell (by exact hBl)).trans h.c4, fr 0, fr 1, fr 2, fr 3, fr 4⟩

/-- ZZnewJSONObject. -/
theorem f9_any (le : Int) (nl ind un : ByteArray) (w : World) :
    Calls Try.prog 9 #[.int .i64 le, .string nl, .string ind, .string un] w fun r w' =>
      r = .returned (.agg #[.slice none 0 0, .int .i64 le, .string nl, .string ind, .string un]) ∧ w' = w.alloc (.cells #[.slice none 0 0, .int .i64 le, .string nl, .string ind, .string un] 28) := by
  go_enter Try.func9, Try.ntmps9
  go_wp2
  exact bodyPost_ret (v := .agg #[.slice none 0 0, .int .i64 le, .string nl, .string ind, .string un]) (by simp [results, Try.results9, go_sem]) rfl ⟨rfl, rfl⟩

/-- The argument's member k. -/
theorem Arg.at {w : World} {a : Option Addr} {n : Nat} {ms : List M} (h : Arg w a n ms) {k : Nat} (hk : k < n) :
    ∃ b off, a = some ⟨b, off, none⟩ ∧ w.cell? ⟨b, off + k * 3, none⟩ = some (.string (ms.getD k m0).1) ∧ w.cell? ⟨b, off + k * 3 + 1, none⟩ = some (.int .i64 (ms.getD k m0).2.1) ∧ w.cell? ⟨b, off + k * 3 + 2, none⟩ = some (.int .i64 (ms.getD k m0).2.2) := by
  obtain ⟨hl, hr, _⟩ := h
  rcases hr with rfl | ⟨b, off, rfl, hr⟩
  · omega
  · exact ⟨b, off, rfl, hr k (by omega)⟩

theorem take_step (ms : List M) (k : Nat) (hk : k < ms.length) : ms.take (k + 1) = ms.take k ++ [ms.getD k m0] := by
  rw [List.take_succ_eq_append_getElem hk, List.getD_eq_getElem?_getD, List.getElem?_eq_getElem hk]; rfl

theorem getD_drop (ms : List M) (i j : Nat) : (ms.drop i).getD j m0 = ms.getD (i + j) m0 := by
  simp [List.getD_eq_getElem?_getD]
end Go.Proofs.Qxb6612677a
