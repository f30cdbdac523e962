import Derived.Test.Qxb6612677aObj
import Derived.ProofKit
import Derived.OpenShut
import Derived.Deep.Strs
import Derived.Lib.SmallJoins
namespace Go.Proofs.Qxb6612677a
open Go.ChangeShapes Go.WideShapes Go.ChangeAt Go.RowKit Go.Deep

theorem cells32 : Try.prog.cellsOf 32 = 3 := by kernel_rfl
theorem cells9 : Try.prog.cellsOf 9 = 1 := by kernel_rfl
theorem cells3 : Try.prog.cellsOf 3 = 1 := by kernel_rfl

section
variable {H : Type} {enc : TypeId × Value → H} {w : World} {base : Nat} {spare : Nat → Bool} {held : Bool}

/-- A struct of key, start, end, read. -/
theorem open_member {n : Nat} {cs : List Value} {x : DataW H × List MemPlace} (h : DataW.trod enc Try.prog w base spare held n 32 cs = some x) :
    ∃ m : M, cs = [.string m.1, .int .i64 m.2.1, .int .i64 m.2.2] ∧ m.1.size ≤ maxLen := by
  obtain ⟨y0, y1, y2, n', _, hl, h0, h1, h2⟩ := trod_struct3 Try.underlying32 h
  rw [cells32] at hl
  match cs, hl with
  | [c0, c1, c2], _ =>
    simp only [cells9, cells3] at h0 h1 h2
    obtain ⟨s, e0, _, hs⟩ := DataW.trod_string Try.underlying9 h0
    obtain ⟨a, e1, _, _⟩ := DataW.trod_int Try.underlying3 h1
    obtain ⟨b, e2, _, _⟩ := DataW.trod_int Try.underlying3 h2
    simp at e0 e1 e2
    subst e0 e1 e2
    exact ⟨(s, a, b), rfl, hs⟩

/-- The slice of members that came in. -/
theorem open_arg {fuel : Nat} {a : Option Addr} {len cap : Nat} {x : DataW H × List MemPlace} (h : DataW.trod enc Try.prog w base spare held fuel 22 [.slice a len cap] = some x) :
    ∃ ms : List M, Arg w a len ms ∧ len ≤ maxLen := by
  rcases open_slice Try.underlying22 h with ⟨h0, _⟩ | ⟨ad, len', cap', m, n, D, Pl, hcs, _, hl, hm, hmm, _, hx⟩
  · simp at h0
    obtain ⟨rfl, rfl, rfl⟩ := h0
    exact ⟨[], ⟨rfl, .inl rfl, fun j => by simp [m0, ByteArray.size]⟩, Nat.zero_le _⟩
  · simp at hcs
    obtain ⟨rfl, rfl, rfl⟩ := hcs
    have hlm : len ≤ m := by rw [hmm]; split <;> omega
    rw [cells32] at hx
    have each : ∀ i, i < len → ∃ q : M, (w.cell? (ad.add (i * 3)) = some (.string q.1) ∧ w.cell? (ad.add (i * 3 + 1)) = some (.int .i64 q.2.1) ∧ w.cell? (ad.add (i * 3 + 2)) = some (.int .i64 q.2.2)) ∧ q.1.size ≤ maxLen := by
      intro i hi
      obtain ⟨cs', h1, h2⟩ := hx i (by omega)
      obtain ⟨q, rfl, hq⟩ := open_member h2
      obtain ⟨_, _, hc⟩ := World.cells?_some h1
      have c0 := hc 0 (by omega)
      have c1 := hc 1 (by omega)
      have c2 := hc 2 (by omega)
      rw [add_add] at c0 c1 c2
      exact ⟨q, ⟨by simpa using c0, by simpa using c1, by simpa using c2⟩, hq⟩
    have : Inhabited M := ⟨m0⟩
    obtain ⟨F, hF⟩ := choose_lt each
    have hg : ∀ j, j < len → ((List.range len).map F).getD j m0 = F j := fun j hj => by simp [List.getD_eq_getElem?_getD, hj]
    refine ⟨(List.range len).map F, ⟨by simp, ?_, ?_⟩, by omega⟩
    · by_cases h0 : len = 0
      · exact .inl h0
      · obtain ⟨b, off, sp⟩ := ad
        have hsp : sp = none := by simpa [Addr.add] using World.cell?_spot (hF 0 (by omega)).1.1
        subst hsp
        refine .inr ⟨b, off, rfl, fun j hj => ?_⟩
        have hj' : j < len := by simpa using hj
        rw [hg j hj']
        obtain ⟨⟨c0, c1, c2⟩, _⟩ := hF j hj'
        rw [add_plain] at c0 c1 c2
        exact ⟨c0, by rw [Nat.add_assoc]; exact c1, by rw [Nat.add_assoc]; exact c2⟩
    · intro j
      by_cases hj : j < len
      · rw [hg j hj]; exact (hF j hj).2
      · rw [List.getD_eq_getElem?_getD, List.getElem?_eq_none (by simpa using hj)]
        simp [m0, ByteArray.size]
end
end Go.Proofs.Qxb6612677a
