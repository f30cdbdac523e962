import Derived.Test.Qxb6612677aLaw3
namespace Go.Proofs.Qxb6612677a
open Go.RowKit

set_option maxHeartbeats 2000000 in
set_option maxRecDepth 100000 in
/-- The cut lies outside, or there are too many members: true at once. -/
theorem f3_out (a : Option Addr) (n cap : Nat) (ms : List M) (le cut : Int) (nl ind un key : ByteArray) (w : World) (harg : Arg w a n ms) (hmx : n ≤ maxLen)
    (h1 : nl.size ≤ maxLen) (h2 : ind.size ≤ maxLen) (h3 : un.size ≤ maxLen) (h4 : key.size ≤ maxLen) (hout : 32768 < n ∨ cut < 0 ∨ (n : Int) < cut) :
    Calls Try.prog 3 #[.slice a n cap, .int .i64 le, .string nl, .string ind, .string un, .string key, .int .i64 cut] w fun r w' => r = .returned (.bool true) ∧ Below w.heap.size w w' := by
  have HO : Hid (32768 < n ∨ cut < 0 ∨ (n : Int) < cut) := hout
  clear hout
  go_enter Try.func3, Try.ntmps3
  go_wp2_with fail
  refine (f7_any _ n cap ms le cut nl ind un key w harg hmx h1 h2 h3 h4).mono ?_
  rintro e w ⟨⟨x, rfl⟩, rfl⟩
  cases x
  · go_wp2
    go_ret
    exact ⟨rfl, Below.refl _ _⟩
  go_wp2_with fail
  refine (f8_any _ n cap ms nl ind un key ⟨#[]⟩ _ harg hmx h1 h2 h3 h4 (Nat.zero_le _)).mono ?_
  rintro e w1 ⟨⟨x, rfl, hx⟩, b1⟩
  cases x
  · go_wp2
    go_ret
    exact ⟨rfl, b1⟩
  have hn := hx rfl
  clear hx h1 h2 h3 h4
  unfold maxLen at hmx
  by_cases hc : cut < 0
  · go_wp2
    go_ret
    exact ⟨rfl, b1⟩
  · have hc' : (n : Int) < cut := by have := HO.out; omega
    have hd : decide (cut < 0) = false := decide_eq_false hc
    go_wp2
    go_ret
    exact ⟨rfl, b1⟩

theorem law3 (a : Option Addr) (n cap : Nat) (ms : List M) (le cut : Int) (nl ind un key : ByteArray) (w : World) (harg : Arg w a n ms) (hmx : n ≤ maxLen)
    (h1 : nl.size ≤ maxLen) (h2 : ind.size ≤ maxLen) (h3 : un.size ≤ maxLen) (h4 : key.size ≤ maxLen) :
    Calls Try.prog 3 #[.slice a n cap, .int .i64 le, .string nl, .string ind, .string un, .string key, .int .i64 cut] w fun r w' => r = .returned (.bool true) ∧ Below w.heap.size w w' := by
  by_cases hout : 32768 < n ∨ cut < 0 ∨ (n : Int) < cut
  · exact f3_out a n cap ms le cut nl ind un key w harg hmx h1 h2 h3 h4 hout
  · obtain ⟨c, rfl⟩ := Int.eq_ofNat_of_zero_le (show 0 ≤ cut by omega)
    exact f3_main a n cap c ms le nl ind un key w harg (by omega) (by omega) h1 h2 h3 h4
end Go.Proofs.Qxb6612677a
