import Derived.Test.Qxb6612677aLaw4
namespace Go.Proofs.Qxb6612677a
open Go.RowKit

set_option maxHeartbeats 2000000 in
set_option maxRecDepth 100000 in
/-- The place lies outside, or there are too many members: true at once. -/
theorem f4_out (a : Option Addr) (n cap : Nat) (ms : List M) (le cut : Int) (nl ind un key pk : ByteArray) (ps pe : Int) (w : World) (harg : Arg w a n ms) (hmx : n ≤ maxLen)
    (h1 : nl.size ≤ maxLen) (h2 : ind.size ≤ maxLen) (h3 : un.size ≤ maxLen) (h4 : key.size ≤ maxLen) (h5 : pk.size ≤ maxLen) (hout : 32768 < n ∨ cut < 0 ∨ (n : Int) < cut) :
    Calls Try.prog 4 #[.slice a n cap, .int .i64 le, .string nl, .string ind, .string un, .string key, .int .i64 cut, .agg #[.string pk, .int .i64 ps, .int .i64 pe]] w fun r w' => r = .returned (.bool true) ∧ Below w.heap.size w w' := by
  have HO : Hid (32768 < n ∨ cut < 0 ∨ (n : Int) < cut) := hout
  clear hout
  have hput : Put (w.alloc (.cells #[.string pk, .int .i64 ps, .int .i64 pe] 32)) w.heap.size pk ps pe := ⟨by simp [go_sem], by simp [go_sem], by simp [go_sem]⟩
  have b0 : Below w.heap.size w (w.alloc (.cells #[.string pk, .int .i64 ps, .int .i64 pe] 32)) := (Below.refl _ _).alloc (Nat.le_refl _) _
  have harg0 := harg.below b0
  clear harg
  go_enter Try.func4, Try.ntmps4
  go_wp2_with fail
  refine (f12_any _ n cap ms le cut nl ind un key pk ps pe _ harg0 hmx h1 h2 h3 h4 h5).mono ?_
  rintro e w0 ⟨⟨x, rfl⟩, b0'⟩
  have B0 : Below w.heap.size w w0 := b0.trans (b0'.mono (by simp))
  have hput0 := hput.below b0'
  have hargA := harg0.below b0'
  clear b0 b0' hput harg0
  cases x
  · go_wp2
    go_ret
    exact ⟨rfl, B0⟩
  obtain ⟨pc0, pc1, pc2⟩ := hput0
  go_wp2_with fail
  refine (f8_any _ n cap ms nl ind un key pk _ hargA hmx h1 h2 h3 h4 h5).mono ?_
  rintro e w1 ⟨⟨x, rfl, hx⟩, b1'⟩
  have b1 : Below w.heap.size w w1 := B0.trans (b1'.mono B0.size)
  clear pc0 pc1 pc2 B0 b1' hargA
  cases x
  · go_wp2
    go_ret
    exact ⟨rfl, b1⟩
  have hn := hx rfl
  clear hx h1 h2 h3 h4 h5
  unfold maxLen at hmx
  by_cases hc : cut < 0
  · go_wp2
    go_ret
    exact ⟨rfl, b1⟩
  · have hc' : (n : Int) < cut := by have := HO.out; omega
    have hd : decide (cut < 0) = false := decide_eq_false hc
    go_wp2
    go_ret
    exact ⟨rfl, b1⟩

theorem law4 (a : Option Addr) (n cap : Nat) (ms : List M) (le cut : Int) (nl ind un key pk : ByteArray) (ps pe : Int) (w : World) (harg : Arg w a n ms) (hmx : n ≤ maxLen)
    (h1 : nl.size ≤ maxLen) (h2 : ind.size ≤ maxLen) (h3 : un.size ≤ maxLen) (h4 : key.size ≤ maxLen) (h5 : pk.size ≤ maxLen) :
    Calls Try.prog 4 #[.slice a n cap, .int .i64 le, .string nl, .string ind, .string un, .string key, .int .i64 cut, .agg #[.string pk, .int .i64 ps, .int .i64 pe]] w fun r w' => r = .returned (.bool true) ∧ Below w.heap.size w w' := by
  by_cases hout : 32768 < n ∨ cut < 0 ∨ (n : Int) < cut
  · exact f4_out a n cap ms le cut nl ind un key pk ps pe w harg hmx h1 h2 h3 h4 h5 hout
  · obtain ⟨c, rfl⟩ := Int.eq_ofNat_of_zero_le (show 0 ≤ cut by omega)
    exact f4_main a n cap c ms le nl ind un key pk ps pe w harg (by omega) (by omega) h1 h2 h3 h4 h5
end Go.Proofs.Qxb6612677a
