import Derived.Test.Qxb6612694aCopy
namespace Go.Proofs.Qxb6612694a
open Go.RowKit

set_option maxHeartbeats 1000000 in
/-- Outside of what the law speaks of: true at once. -/
theorem f4_out (a a' : Option Addr) (n n' cap cap' : Nat) (ss es : List Int) (k : Int) (w : World) (hn : n ≤ maxLen) (hn' : n' ≤ maxLen) (hout : 65536 < n ∨ n' ≠ n ∨ k < 0 ∨ (n : Int) ≤ k) :
    Calls Try.prog 4 #[.slice a n cap, .slice a' n' cap', .int .i64 k] w fun r w' => r = .returned (.bool true) ∧ Below w.heap.size w w' := by
  have HO : Hid (65536 < n ∨ n' ≠ n ∨ k < 0 ∨ (n : Int) ≤ k) := hout
  clear hout
  go_enter Try.func4, Try.ntmps4
  go_wp2_with fail
  refine (f10_any _ _ n n' cap cap' k w hn hn').mono ?_
  rintro e w ⟨⟨x, rfl⟩, rfl⟩
  cases x
  · go_wp2
    go_ret
    exact ⟨rfl, Below.refl _ _⟩
  go_wp2_with fail
  refine (f6_any _ _ n n' cap cap' w hn hn').mono ?_
  rintro e w ⟨⟨x, rfl, hx⟩, rfl⟩
  cases x
  case true =>
    go_wp2
    go_ret
    exact ⟨rfl, Below.refl _ _⟩
  obtain ⟨g1, g2⟩ := hx rfl
  clear hx hn hn'
  by_cases k0 : k < 0
  · have d0 : decide (k < 0) = true := decide_eq_true k0
    go_wp2
    go_ret
    exact ⟨rfl, Below.refl _ _⟩
  have d0 : decide (k < 0) = false := decide_eq_false k0
  by_cases k1 : (n : Int) ≤ k
  · have d1 : decide ((n : Int) ≤ k) = true := decide_eq_true k1
    go_wp2
    go_ret
    exact ⟨rfl, Below.refl _ _⟩
  have d1 : decide ((n : Int) ≤ k) = false := decide_eq_false k1
  have hne : n' ≠ n := by have := HO.out; omega
  have HNE : Hid (n' ≠ n) := hne
  clear hne
  go_wp2_with fail
  refine (f7_zero _ _ n n' cap cap' ss es w g1 (.inr HNE.out)).mono ?_
  rintro e w1 ⟨⟨x, rfl, hx⟩, b1⟩
  cases x
  · clear hx
    go_wp2
    go_ret
    exact ⟨rfl, b1⟩
  exact absurd (hx rfl).1 HNE.out

/-- WHAT THE WALK IS TOLD OF A SLICE OF INTEGERS THAT CAME IN: it is nil; or it leads to a row of 'cap' cells, the numbers 'zs' (the first 'len' are its elements, the rest its spare room), each fitting its kind. -/
def IsRow (k : IntKind) (w : World) (a : Option Addr) (len cap : Nat) (zs : List Int) : Prop :=
  (a = none ∧ len = 0 ∧ cap = 0 ∧ zs = []) ∨
  ∃ x, a = some x ∧ len ≤ cap ∧ cap ≤ maxLen ∧ zs.length = cap ∧ (∀ i, i < zs.length → w.cell? (x.add i) = some (.int k (zs.getD i 0))) ∧ ∀ n ∈ zs, (Lit.int k n).wf = true

theorem IsRow.len {w : World} {a : Option Addr} {len cap : Nat} {zs : List Int} (h : IsRow .i64 w a len cap zs) : len ≤ maxLen := by
  rcases h with ⟨rfl, rfl, rfl, rfl⟩ | ⟨x, rfl, hl, hm, _⟩
  · exact Nat.zero_le _
  · exact Nat.le_trans hl hm

theorem IsRow.row {w : World} {a : Option Addr} {len cap : Nat} {zs : List Int} (h : IsRow .i64 w a len cap zs) (h0 : 0 < len) : ∃ b off, a = some ⟨b, off, none⟩ ∧ Row w b off len zs := by
  rcases h with ⟨rfl, rfl, rfl, rfl⟩ | ⟨x, rfl, hl, hm, hz, hc, _⟩
  · omega
  · obtain ⟨b, off, rfl, hc'⟩ := ints_at hc (by omega)
    exact ⟨b, off, rfl, fun j hj => hc' j (by omega)⟩

theorem law4 (a a' : Option Addr) (n n' cap cap' : Nat) (ss es : List Int) (k : Int) (w : World) (hs : IsRow .i64 w a n cap ss) (he : IsRow .i64 w a' n' cap' es) :
    Calls Try.prog 4 #[.slice a n cap, .slice a' n' cap', .int .i64 k] w fun r w' => r = .returned (.bool true) ∧ Below w.heap.size w w' := by
  by_cases hout : 65536 < n ∨ n' ≠ n ∨ k < 0 ∨ (n : Int) ≤ k
  · exact f4_out a a' n n' cap cap' ss es k w hs.len he.len hout
  · obtain ⟨q, rfl⟩ := Int.eq_ofNat_of_zero_le (show 0 ≤ k by omega)
    obtain rfl : n' = n := by omega
    obtain ⟨b, off, rfl, rs⟩ := hs.row (by omega)
    obtain ⟨b', off', rfl, re⟩ := he.row (by omega)
    exact f4_main b off cap b' off' cap' n' q ss es w (by omega) (by omega) rs re
end Go.Proofs.Qxb6612694a
