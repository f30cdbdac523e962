import Derived.Test.Qxb6612694aRows
import Derived.Test.Qxb6612694aPlain
import Derived.WalkKit
import Derived.ProofKit
import Derived.OpenShut
import Derived.WalkSpells
import Derived.WalkLawsBesides
import Derived.Deep.QuietTactic
import Derived.BigQuiet
namespace Go.Proofs.Qxb6612694a
open Go.RowKit

/-- minutes. -/
theorem f12_any (x : Int) (w : World) (h0 : -100000 ≤ x) (h1 : x ≤ 100000) : Calls Try.prog 12 #[.int .i64 x] w fun r w' => r = .returned (.int .i64 (x * 60000000000)) ∧ w' = w := by
  go_enter Try.func12, Try.ntmps12
  go_wp2
  go_ret
  exact ⟨rfl, rfl⟩

/-- cmp.Compare[int]: less. -/
theorem f15_less (x y : Int) (w : World) (h : x < y) : Calls Try.prog 15 #[.int .i64 x, .int .i64 y] w fun r w' => r = .returned (.int .i64 (-1)) ∧ w' = w := by
  go_enter Try.func15, Try.ntmps15
  go_wp2
  go_ret
  exact ⟨rfl, rfl⟩

theorem f15_more (x y : Int) (w : World) (h : ¬ x < y) : Calls Try.prog 15 #[.int .i64 x, .int .i64 y] w fun r w' => ∃ z : Int, r = .returned (.int .i64 z) ∧ 0 ≤ z ∧ w' = w := by
  go_enter Try.func15, Try.ntmps15
  go_wp2
  all_goals (go_ret; exact ⟨_, rfl, by decide, rfl⟩)

/-- The closure of weekState: less. -/
theorem f14_less (s e t : Int) (w : World) (h : e < t) : Calls Try.prog 14 #[.agg #[.int .i64 s, .int .i64 e], .int .i64 t] w fun r w' => r = .returned (.int .i64 (-1)) ∧ Below w.heap.size w w' := by
  go_enter Try.func14, Try.ntmps14
  go_wp2_with (go_at_call 15; refine (f15_less e t _ h).mono ?_; rintro e w' ⟨rfl, rfl⟩)
  go_ret
  exact ⟨rfl, (Below.refl _ _).alloc (Nat.le_refl _) _⟩

theorem f14_more (s e t : Int) (w : World) (h : ¬ e < t) : Calls Try.prog 14 #[.agg #[.int .i64 s, .int .i64 e], .int .i64 t] w fun r w' => ∃ z : Int, r = .returned (.int .i64 z) ∧ 0 ≤ z ∧ Below w.heap.size w w' := by
  go_enter Try.func14, Try.ntmps14
  go_wp2_with (go_at_call 15; refine (f15_more e t _ h).mono ?_; rintro e w' ⟨z, rfl, hz, rfl⟩)
  go_ret
  exact ⟨_, rfl, hz, (Below.refl _ _).alloc (Nat.le_refl _) _⟩

/-- The row of spans. -/
def Spans (w : World) (g : Nat) (ss es : List Int) (n : Nat) : Prop :=
  ∀ j, j < n → w.cell? ⟨g, j * 2, none⟩ = some (.int .i64 (ss.getD j 0)) ∧ w.cell? ⟨g, j * 2 + 1, none⟩ = some (.int .i64 (es.getD j 0))

theorem Spans.below {w w' : World} {g n : Nat} {ss es : List Int} (h : Spans w g ss es n) (hb : Below w.heap.size w w') : Spans w' g ss es n := by
  intro j hj
  obtain ⟨h1, h2⟩ := h j hj
  exact ⟨(hb.cell (World.block_lt_of_cell? w _ h1)).trans h1, (hb.cell (World.block_lt_of_cell? w _ h2)).trans h2⟩

set_option maxHeartbeats 1000000 in
/-- slices.BinarySearchFunc at that closure. -/
theorem f13_any (g n c : Nat) (ss es : List Int) (t : Int) (w : World) (hn : n ≤ 65536) (hsp : Spans w g ss es n) (hmono : ∀ i j, i < j → j < n → es.getD i 0 ≤ es.getD j 0) :
    Calls Try.prog 13 #[.slice (some ⟨g, 0, none⟩) n c, .int .i64 t, .func (.func 14) #[] #[]] w fun r w' =>
      ∃ (i : Nat) (x : Bool), r = .returned (.tuple #[.int .i64 i, .bool x]) ∧ i ≤ n ∧ (∀ j, j < i → es.getD j 0 < t) ∧ (∀ j, i ≤ j → j < n → t ≤ es.getD j 0) ∧ Below w.heap.size w w' := by
  have HM : Hid (∀ i j, i < j → j < n → es.getD i 0 ≤ es.getD j 0) := hmono
  clear hmono
  go_enter Try.func13, Try.ntmps13
  go_wp2
  go_loopw [9, 10] (fun i j wr => ∃ lo hi : Nat, lo ≤ hi ∧ hi ≤ n ∧ i = .int .i64 lo ∧ j = .int .i64 hi ∧ Hid (∀ q, q < lo → es.getD q 0 < t) ∧ Hid (∀ q, hi ≤ q → q < n → t ≤ es.getD q 0) ∧ Below w.heap.size w wr) (fun i j _ => (intOf j).toNat - (intOf i).toNat)
  case atStart => exact ⟨0, n, Nat.zero_le _, Nat.le_refl _, rfl, rfl, fun q hq => by omega, fun q h1 h2 => by omega, Below.refl _ _⟩
  case round =>
    obtain ⟨lo, hi, hlh, hhn, rfl, rfl, hL, hH, hb⟩ := hrel
    by_cases hlt : lo < hi
    · obtain ⟨x0, x1⟩ := hsp.below hb ((lo + hi) / 2) (by omega)
      by_cases hc : es.getD ((lo + hi) / 2) 0 < t
      · generalize hS : ss.getD ((lo + hi) / 2) 0 = s at x0
        generalize hE : es.getD ((lo + hi) / 2) 0 = e at x1 hc
        have HE : Hid (es.getD ((lo + hi) / 2) 0 = e) := hE
        clear hS hE
        go_wp2_with fail
        refine (f14_less s e t wr hc).mono ?_
        rintro r w1 ⟨rfl, b1⟩
        have hb1 : Below w.heap.size w w1 := hb.trans (b1.mono hb.size)
        clear x0 x1 b1
        go_wp2
        go_roundw
        case rel =>
          refine ⟨(lo + hi) / 2 + 1, hi, by omega, hhn, by go_num, rfl, fun q hq => ?_, hH, hb1⟩
          by_cases eq : q = (lo + hi) / 2
          · rw [eq, HE.out]; exact hc
          · have := HM.out q ((lo + hi) / 2) (by omega) (by omega)
            rw [HE.out] at this
            omega
        case measure => simp [intOf]; omega
      · generalize hS : ss.getD ((lo + hi) / 2) 0 = s at x0
        generalize hE : es.getD ((lo + hi) / 2) 0 = e at x1 hc
        have HE : Hid (es.getD ((lo + hi) / 2) 0 = e) := hE
        clear hS hE
        go_wp2_with fail
        refine (f14_more s e t wr (by omega)).mono ?_
        rintro r w1 ⟨z, rfl, hz, b1⟩
        have hb1 : Below w.heap.size w w1 := hb.trans (b1.mono hb.size)
        clear x0 x1 b1
        go_wp2
        go_roundw
        case rel =>
          refine ⟨lo, (lo + hi) / 2, by omega, by omega, rfl, by go_num, hL, fun q h1 h2 => ?_, hb1⟩
          by_cases eq : q = (lo + hi) / 2
          · rw [eq, HE.out]; omega
          · have := HM.out ((lo + hi) / 2) q (by omega) h2
            rw [HE.out] at this
            omega
        case measure => simp [intOf]; omega
    · obtain rfl : lo = hi := by omega
      by_cases hln : lo < n
      · obtain ⟨x0, x1⟩ := hsp.below hb lo hln
        have hd : decide ((lo : Int) < (n : Int)) = true := by simp; omega
        generalize ss.getD lo 0 = s at x0
        generalize es.getD lo 0 = e at x1
        by_cases hc : e < t
        · go_wp2_with fail
          refine (f14_less s e t wr hc).mono ?_
          rintro r w1 ⟨rfl, b1⟩
          have hb1 : Below w.heap.size w w1 := hb.trans (b1.mono hb.size)
          clear x0 x1 b1
          go_wp2
          go_ret2
          exact ⟨lo, _, rfl, hhn, hL, hH, hb1⟩
        · go_wp2_with fail
          refine (f14_more s e t wr (by omega)).mono ?_
          rintro r w1 ⟨z, rfl, hz, b1⟩
          have hb1 : Below w.heap.size w w1 := hb.trans (b1.mono hb.size)
          clear x0 x1 b1
          go_wp2
          go_ret2
          exact ⟨lo, _, rfl, hhn, hL, hH, hb1⟩
      · have hd : decide ((lo : Int) < (n : Int)) = false := by simp; omega
        go_wp2
        go_ret2
        exact ⟨lo, _, rfl, hhn, hL, hH, hb⟩
end Go.Proofs.Qxb6612694a
