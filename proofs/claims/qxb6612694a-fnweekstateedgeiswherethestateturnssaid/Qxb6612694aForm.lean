import Derived.Test.Qxb6612694aWeek
namespace Go.Proofs.Qxb6612694a
open Go.RowKit

/-- What agB1WellFormed hands back. -/
def IsWF (ss es : List Int) (n n' : Nat) (r : Ending) : Prop := ∃ x : Bool, r = .returned (.bool x) ∧ (x = true → n' = n ∧ WF ss es n)
theorem isWF_false (ss es : List Int) (n n' : Nat) : IsWF ss es n n' (.returned (.bool false)) := ⟨false, rfl, fun h => by cases h⟩

theorem f7_zero (a a' : Option Addr) (n n' cap cap' : Nat) (ss es : List Int) (w : World) (hn : n ≤ 65536) (h : n = 0 ∨ n' ≠ n) :
    Calls Try.prog 7 #[.slice a n cap, .slice a' n' cap'] w fun r w' => IsWF ss es n n' r ∧ Below w.heap.size w w' := by
  by_cases h0 : n = 0
  · have hd : ((n : Int) == 0) = true := beq_iff_eq.2 (by omega)
    clear h h0
    go_enter Try.func7, Try.ntmps7
    go_wp2
    go_ret
    exact ⟨isWF_false _ _ _ _, Below.refl _ _⟩
  · have hd : ((n : Int) == 0) = false := beq_eq_false_iff_ne.2 (by omega)
    have hd' : ((n' : Int) != (n : Int)) = true := by rw [bne_iff_ne]; omega
    clear h h0
    go_enter Try.func7, Try.ntmps7
    go_wp2
    go_ret
    exact ⟨isWF_false _ _ _ _, Below.refl _ _⟩

/-- The first k spans are as they should be. -/
structure Good (ss es : List Int) (n k : Nat) : Prop where
  lo : ∀ i, i < k → 0 ≤ ss.getD i 0
  hi : ∀ i, i < k → ss.getD i 0 < 10080
  se : ∀ i, i < k → ss.getD i 0 < es.getD i 0
  next : ∀ i, i < k → i + 1 < n → es.getD i 0 < ss.getD (i + 1) 0

theorem Good.step {ss es : List Int} {n k : Nat} (h : Good ss es n k) {s e : Int} (hs : ss.getD k 0 = s) (he : es.getD k 0 = e) (h1 : 0 ≤ s) (h2 : s < 10080) (h3 : s < e) (h4 : k + 1 < n → e < ss.getD (k + 1) 0) : Good ss es n (k + 1) := by
  refine ⟨fun i hi => ?_, fun i hi => ?_, fun i hi => ?_, fun i hi hn => ?_⟩
  all_goals
    by_cases ek : i = k
    · subst ek
      first | (rw [hs]; exact h1) | (rw [hs]; exact h2) | (rw [hs, he]; exact h3) | (rw [he]; exact h4 hn)
    · first | exact h.lo i (by omega) | exact h.hi i (by omega) | exact h.se i (by omega) | exact h.next i (by omega) hn

set_option maxHeartbeats 2000000 in
theorem f7_pos (b off cap b' off' cap' n : Nat) (ss es : List Int) (w : World) (hn : n ≤ 65536) (hpos : 0 < n) (hS : Row w b off n ss) (hE : Row w b' off' n es) :
    Calls Try.prog 7 #[.slice (some ⟨b, off, none⟩) n cap, .slice (some ⟨b', off', none⟩) n cap'] w fun r w' => IsWF ss es n n r ∧ Below w.heap.size w w' := by
  have HS : Hid (Row w b off n ss) := hS
  have HE : Hid (Row w b' off' n es) := hE
  clear hS hE
  have hd : ((n : Int) == 0) = false := beq_eq_false_iff_ne.2 (by omega)
  go_enter Try.func7, Try.ntmps7
  go_wp2
  go_loopw [6] (fun i wr => ∃ k : Nat, k ≤ n ∧ i = .int .i64 k ∧ Good ss es n k ∧ Below w.heap.size w wr) (fun i _ => n - (intOf i).toNat)
  case atStart => exact ⟨0, Nat.zero_le _, rfl, ⟨fun i hi => by omega, fun i hi => by omega, fun i hi => by omega, fun i hi => by omega⟩, Below.refl _ _⟩
  case round =>
    obtain ⟨k, hk, rfl, hgood, hb⟩ := hrel
    by_cases hlt : k < n
    · have hlt' : (k : Int) < (n : Int) := by omega
      have x0 := HS.out.below hb k hlt
      have x1 := HE.out.below hb k hlt
      generalize hs : ss.getD k 0 = s at x0
      generalize he : es.getD k 0 = e at x1
      have HGS : Hid (0 ≤ s → s < 10080 → s < e → (k + 1 < n → e < ss.getD (k + 1) 0) → Good ss es n (k + 1)) := fun h1 h2 h3 h4 => hgood.step hs he h1 h2 h3 h4
      clear hs he hgood
      by_cases c1 : s < 0
      · have d1 : decide (s < 0) = true := decide_eq_true c1
        go_wp2
        go_quiet (fail)
        go_wp2
        go_ret
        exact ⟨isWF_false _ _ _ _, below_drewN hb _⟩
      have d1 : decide (s < 0) = false := decide_eq_false c1
      by_cases c2 : 10080 ≤ s
      · have d2 : decide (10080 ≤ s) = true := decide_eq_true c2
        go_wp2
        go_quiet (fail)
        go_wp2
        go_ret
        exact ⟨isWF_false _ _ _ _, below_drewN hb _⟩
      have d2 : decide (10080 ≤ s) = false := decide_eq_false c2
      by_cases c3 : e ≤ s
      · have d3 : decide (e ≤ s) = true := decide_eq_true c3
        go_wp2
        go_quiet (fail)
        go_wp2
        go_ret
        exact ⟨isWF_false _ _ _ _, below_drewN hb _⟩
      have d3 : decide (e ≤ s) = false := decide_eq_false c3
      by_cases c4 : k + 1 < n
      · have hlt2 : ((k : Int) + 1) < (n : Int) := by omega
        have d4 : decide (((k : Int) + 1) < (n : Int)) = true := decide_eq_true hlt2
        have hw : IntKind.i64.wrap ((k : Int) + 1) = (k : Int) + 1 := by rw [IntKind.wrap_i64]; omega
        have x2 := HS.out.below hb (k + 1) c4
        have hk0 : (0 : Int) ≤ (k : Int) + 1 := by omega
        have hkt : ((k : Int) + 1).toNat = k + 1 := by omega
        generalize hs : ss.getD (k + 1) 0 = s2 at x2
        have HS2 : Hid (ss.getD (k + 1) 0 = s2) := hs
        clear hs
        by_cases c5 : s2 ≤ e
        · have d5 : decide (s2 ≤ e) = true := decide_eq_true c5
          go_wp2
          go_quiet (fail)
          go_wp2
          go_quiet (fail)
          go_wp2
          go_ret
          exact ⟨isWF_false _ _ _ _, below_drewN (below_drewN hb _) _⟩
        · have d5 : decide (s2 ≤ e) = false := decide_eq_false c5
          go_wp2
          go_quiet (fail)
          go_wp2
          go_quiet (fail)
          go_wp2
          go_roundw
          case rel => exact ⟨k + 1, by omega, by go_num, HGS.out (by omega) (by omega) (by omega) (fun _ => by rw [HS2.out]; omega), below_drewN hb _⟩
          case measure => simp [intOf]; omega
      · have d4 : decide (((k : Int) + 1) < (n : Int)) = false := decide_eq_false (by omega)
        go_wp2
        go_quiet (fail)
        go_wp2
        go_quiet (fail)
        go_wp2
        go_roundw
        case rel => exact ⟨k + 1, by omega, by go_num, HGS.out (by omega) (by omega) (by omega) (fun h => by omega), below_drewN hb _⟩
        case measure => simp [intOf]; omega
    · obtain rfl : k = n := by omega
      have x0 := HS.out.below hb 0 hpos
      have x1 := HE.out.below hb (k - 1) (by omega)
      have r0 := hgood.lo 0 hpos
      have r1 := hgood.hi 0 hpos
      rw [Nat.add_zero] at x0
      have hp1 : (1 : Int) ≤ (k : Int) := by omega
      have hp0 : (0 : Int) < (k : Int) := by omega
      generalize hs : ss.getD 0 0 = s at x0 r0 r1
      generalize he : es.getD (k - 1) 0 = e at x1
      have HF : Hid (decide (e < s + 10080) = true → WF ss es k) := fun hd => ⟨hpos, hgood.lo, hgood.hi, hgood.se, fun i hi => hgood.next i (by omega) hi, by rw [hs, he]; exact of_decide_eq_true hd⟩
      clear hs he hgood
      go_wp2
      go_quiet (fail)
      go_wp2
      go_ret
      exact ⟨⟨_, rfl, fun h => ⟨rfl, HF.out h⟩⟩, below_drewN hb _⟩

/-- What agB1CalendarOver hands back. -/
def IsOver (n n' : Nat) (r : Ending) : Prop := ∃ x : Bool, r = .returned (.bool x) ∧ (x = false → n ≤ 65536 ∧ n' ≤ 65536)
theorem isOver_true (n n' : Nat) : IsOver n n' (.returned (.bool true)) := ⟨true, rfl, fun h => by cases h⟩

theorem f6_any (a a' : Option Addr) (n n' cap cap' : Nat) (w : World) (hn : n ≤ maxLen) (hn' : n' ≤ maxLen) :
    Calls Try.prog 6 #[.slice a n cap, .slice a' n' cap'] w fun r w' => IsOver n n' r ∧ w' = w := by
  unfold maxLen at hn hn'
  by_cases h1 : 65536 < n
  · have d1 : decide ((65536 : Int) < (n : Int)) = true := decide_eq_true (by omega)
    go_enter Try.func6, Try.ntmps6
    go_wp2
    go_ret
    exact ⟨isOver_true _ _, rfl⟩
  have d1 : decide ((65536 : Int) < (n : Int)) = false := decide_eq_false (by omega)
  by_cases h2 : 65536 < n'
  · have d2 : decide ((65536 : Int) < (n' : Int)) = true := decide_eq_true (by omega)
    go_enter Try.func6, Try.ntmps6
    go_wp2
    go_ret
    exact ⟨isOver_true _ _, rfl⟩
  have d2 : decide ((65536 : Int) < (n' : Int)) = false := decide_eq_false (by omega)
  have HB : Hid (n ≤ 65536 ∧ n' ≤ 65536) := ⟨by omega, by omega⟩
  go_enter Try.func6, Try.ntmps6
  go_wp2
  go_ret
  exact ⟨⟨_, rfl, fun _ => HB.out⟩, rfl⟩
end Go.Proofs.Qxb6612694a
