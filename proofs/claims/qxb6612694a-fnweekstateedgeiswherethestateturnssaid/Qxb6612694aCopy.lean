import Derived.Test.Qxb6612694aForm
import Derived.Laws.CopyOwn
namespace Go.Proofs.Qxb6612694a
open Go.RowKit

theorem info3 : (Try.prog.info? 3).map (fun i => (i.zero, i.size, i.bytes)) = some (some (.int .i64 0), 1, 8) := by kernel_rfl
theorem size3 : (Try.prog.info? 3).map (·.size) = some 1 := by kernel_rfl

/-- n numbers as cells. -/
def ints (n : Nat) (zs : List Int) : List Value := (List.range n).map fun j => .int .i64 (zs.getD j 0)
theorem ints_length (n : Nat) (zs : List Int) : (ints n zs).length = n := by simp [ints]
theorem ints_at' {n : Nat} {zs : List Int} {j : Nat} {v : Value} (h : (ints n zs)[j]? = some v) : j < n ∧ v = .int .i64 (zs.getD j 0) := by
  unfold ints at h
  rw [List.getElem?_map] at h
  by_cases hj : j < n
  · rw [List.getElem?_range hj] at h
    exact ⟨hj, by simpa using h.symm⟩
  · rw [List.getElem?_eq_none (by simpa using hj)] at h
    simp at h
theorem ints_get {n : Nat} {zs : List Int} {j : Nat} (hj : j < n) : (ints n zs)[j]? = some (.int .i64 (zs.getD j 0)) := by
  unfold ints
  rw [List.getElem?_map, List.getElem?_range hj]; rfl
theorem ints_one {n : Nat} {zs : List Int} : ∀ v ∈ ints n zs, v.oneCell' = true := by
  intro v hv
  simp [ints] at hv
  obtain ⟨j, _, rfl⟩ := hv
  rfl

theorem row_of_own {w : World} {base g n : Nat} {xs : List Value} (h : w.ownsRow base 3 1 (.slice (some ⟨g, 0, none⟩) n n) n xs) : w.heap[g]? = some (.cells xs.toArray 3 (0, 0)) := by
  rcases h.2 with ⟨h', _⟩ | ⟨g', cap', cur, h', _, hg, _, _, hcs, htake⟩
  · simp at h'
  · simp only [Value.slice.injEq, Option.some.injEq, Addr.mk.injEq, and_true, true_and] at h'
    obtain ⟨rfl, rfl⟩ := h'
    have : cur.toList = xs := by rw [← htake, List.take_of_length_le (by simp; omega)]
    rw [← this]
    simpa using hg

theorem copied_row {w : World} {g n : Nat} {cur : List Value} {zs : List Int} (hl : cur.length = n) (h : w.heap[g]? = some (.cells (splice cur 0 (ints n zs)).toArray 3 (0, 0))) : Row w g 0 n zs := by
  have e : splice cur 0 (ints n zs) = ints n zs := by
    unfold splice
    rw [ints_length, List.drop_of_length_le (by omega)]
    simp
  rw [e] at h
  intro j hj
  rw [Nat.zero_add, cell_of_row w g j _ 3 (0, 0) h]
  simpa using ints_get hj

theorem row_src {w : World} {b off n : Nat} {zs : List Int} (h : Row w b off n zs) : ∀ j v, (ints n zs)[j]? = some v → w.cell? ((⟨b, off, none⟩ : Addr).add j) = some v := by
  intro j v hv
  obtain ⟨hj, rfl⟩ := ints_at' hv
  rw [Go.WideShapes.add_plain]
  exact h j hj

theorem q22 (w : World) (a : Option Addr) (n c n' c' : Nat) : (binOp .neq 22 (.slice a n c) (.slice none n' c')).run Try.prog w = .ok (.bool (!a.isNone)) w := run_neq_slice_nil_any w 22 3 a n c n' c' Try.underlying22

/-- It returns a bool. -/
def IsB (r : Ending) : Prop := ∃ x : Bool, r = .returned (.bool x)
theorem f10_any (a a' : Option Addr) (n n' cap cap' : Nat) (k : Int) (w : World) (hn : n ≤ maxLen) (hn' : n' ≤ maxLen) :
    Calls Try.prog 10 #[.slice a n cap, .slice a' n' cap', .int .i64 k] w fun r w' => IsB r ∧ w' = w := by
  unfold maxLen at hn hn'
  go_enter Try.func10, Try.ntmps10
  go_wp2
  all_goals (go_ret; exact ⟨⟨_, rfl⟩, rfl⟩)
theorem f5_any (a a' : Option Addr) (n n' cap cap' : Nat) (k : Int) (w : World) (hn : n ≤ maxLen) (hn' : n' ≤ maxLen) :
    Calls Try.prog 5 #[.slice a n cap, .slice a' n' cap', .int .i64 k] w fun r w' => IsB r ∧ w' = w := by
  unfold maxLen at hn hn'
  go_enter Try.func5, Try.ntmps5
  go_wp2
  all_goals (go_ret; exact ⟨⟨_, rfl⟩, rfl⟩)

set_option maxHeartbeats 2000000 in
theorem f4_main (b off cap b' off' cap' n k : Nat) (ss es : List Int) (w : World) (hk : k < n) (hn : n ≤ 65536) (hS : Row w b off n ss) (hE : Row w b' off' n es) :
    Calls Try.prog 4 #[.slice (some ⟨b, off, none⟩) n cap, .slice (some ⟨b', off', none⟩) n cap', .int .i64 k] w fun r w' => r = .returned (.bool true) ∧ Below w.heap.size w w' := by
  have hmx : n ≤ maxLen := by unfold maxLen; omega
  have q := q22
  obtain ⟨i0, hi, hz0, hz1, hz2⟩ := info_parts info3
  have HI : Hid (Try.prog.info? 3 = some i0) := hi
  have HZ0 : Hid (i0.zero = some (.int .i64 0)) := hz0
  have HZ1 : Hid (i0.size = 1) := hz1
  have HZ2 : Hid (i0.bytes = 8) := hz2
  clear hi hz0 hz1 hz2
  have hk0 : decide ((k : Int) < 0) = false := decide_eq_false (by omega)
  have hk1 : decide ((n : Int) ≤ (k : Int)) = false := decide_eq_false (by omega)
  go_enter Try.func4, Try.ntmps4
  go_wp2_with fail
  refine (f10_any _ _ n n cap cap' k w hmx hmx).mono ?_
  rintro e w ⟨⟨x, rfl⟩, rfl⟩
  cases x
  · go_wp2
    go_ret
    exact ⟨rfl, Below.refl _ _⟩
  go_wp2_with fail
  refine (f6_any _ _ n n cap cap' w hmx hmx).mono ?_
  rintro e w ⟨⟨x, rfl, -⟩, rfl⟩
  cases x
  case true =>
    go_wp2
    go_ret
    exact ⟨rfl, Below.refl _ _⟩
  go_wp2_with fail
  refine (f7_pos b off cap b' off' cap' n ss es w hn (by omega) hS hE).mono ?_
  rintro e w1 ⟨⟨x, rfl, hx⟩, b1⟩
  cases x
  · clear hx
    go_wp2
    go_ret
    exact ⟨rfl, b1⟩
  obtain ⟨-, hwf⟩ := hx rfl
  clear hx
  have hS1 := hS.below b1
  have hE1 := hE.below b1
  clear hS hE
  go_wp2_with (at_make; refine wpList_make_full _ rfl (.tmp 39) (.tmp 39) 22 rfl w1.heap.size 3 i0 (.int .i64 0) 1 Try.underlying22 HI.out HZ0.out HZ1.out .i64 .i64 _ _ n rfl rfl rfl rfl ?_ ?_ ?_ ?_)
  case refine_1 => rw [HZ2.out]; omega
  case refine_2 => unfold maxLen; omega
  case refine_3 => omega
  intro w2 hown hgrow
  have b2 : Below w1.heap.size w1 w2 := (Below.refl _ _).grown hgrow (Nat.le_refl _) (by intro k hk; cases hk)
  obtain ⟨cur, hown⟩ : ∃ cur, w2.ownsRow w1.heap.size 3 1 (.slice (some ⟨w1.heap.size, 0, none⟩) n n) n cur := ⟨_, hown⟩
  have HROW : Hid (w2.heap[w1.heap.size]? = some (.cells cur.toArray 3 (0, 0))) := row_of_own hown
  have HLEN : Hid (cur.length = n) := by have := hown.1; exact (by omega : cur.length = n)
  have hS2 := hS1.below b2
  clear hgrow hown
  go_wp2_with (refine wpList_copy_splice rfl (.tmp 41) (.tmp 42) 22 22 rfl 3 Try.underlying22 size3 _ _ n n n cap rfl rfl w1.heap.size 0 cur 3 HROW.out (ints n ss) ?_ ?_ ?_ ints_one w1.heap.size w1 b2 (Nat.le_refl _) ?_)
  case refine_1 => rw [ints_length]; simp
  case refine_2 => intro _ j v hv; obtain ⟨hj, rfl⟩ := ints_at' hv; exact hS2 j hj
  case refine_3 => rw [ints_length, HLEN.out]; omega
  intro w3 hr3 b3
  have hS3 : Row w3 w1.heap.size 0 n ss := copied_row HLEN.out hr3.out
  have hE3 := hE1.below b3
  have B3 : Below w.heap.size w w3 := b1.trans (b3.mono b1.size)
  clear hr3 b3 hS2 HROW HLEN b2 hS1 hE1 b1
  go_wp2_with (at_make; refine wpList_make_full _ rfl (.tmp 48) (.tmp 48) 22 rfl w3.heap.size 3 i0 (.int .i64 0) 1 Try.underlying22 HI.out HZ0.out HZ1.out .i64 .i64 _ _ n rfl rfl rfl rfl ?_ ?_ ?_ ?_)
  case refine_1 => rw [HZ2.out]; omega
  case refine_2 => unfold maxLen; omega
  case refine_3 => omega
  intro w4 hown hgrow
  have b4 : Below w3.heap.size w3 w4 := (Below.refl _ _).grown hgrow (Nat.le_refl _) (by intro k hk; cases hk)
  obtain ⟨cur, hown⟩ : ∃ cur, w4.ownsRow w3.heap.size 3 1 (.slice (some ⟨w3.heap.size, 0, none⟩) n n) n cur := ⟨_, hown⟩
  have HROW : Hid (w4.heap[w3.heap.size]? = some (.cells cur.toArray 3 (0, 0))) := row_of_own hown
  have HLEN : Hid (cur.length = n) := by have := hown.1; exact (by omega : cur.length = n)
  have hE4 := hE3.below b4
  clear hgrow hown
  go_wp2_with (refine wpList_copy_splice rfl (.tmp 50) (.tmp 51) 22 22 rfl 3 Try.underlying22 size3 _ _ n n n cap' rfl rfl w3.heap.size 0 cur 3 HROW.out (ints n es) ?_ ?_ ?_ ints_one w3.heap.size w3 b4 (Nat.le_refl _) ?_)
  case refine_1 => rw [ints_length]; simp
  case refine_2 => intro _ j v hv; obtain ⟨hj, rfl⟩ := ints_at' hv; exact hE4 j hj
  case refine_3 => rw [ints_length, HLEN.out]; omega
  intro w5 hr5 b5
  have hE5 : Row w5 w3.heap.size 0 n es := copied_row HLEN.out hr5.out
  have hS5 := hS3.below b5
  have B5 : Below w.heap.size w w5 := B3.trans (b5.mono B3.size)
  clear hr5 b5 hE4 HROW HLEN b4 hE3 hS3 B3 HI HZ0 HZ1 HZ2 q
  have hk' : (k : Int) < (n : Int) := by omega
  have x0 := hS5 k hk
  rw [Nat.zero_add] at x0
  have hs0 := hwf.lo k hk
  have hs1 := hwf.hi k hk
  have he1 := hwf.ebound k hk
  generalize hsk : ss.getD k 0 = s at x0 hs0 hs1
  generalize hek : es.getD k 0 = e at he1
  have HSK : Hid (ss.getD k 0 = s) := hsk
  have HEK : Hid (es.getD k 0 = e) := hek
  clear hsk hek
  go_wp2_with fail
  refine (f8_any w1.heap.size 0 n w3.heap.size 0 n n ss es (s * 60000000000) _ hn hS5 hE5 hwf (by omega) (by omega)).mono ?_
  rintro r w6 ⟨⟨o, ed, rfl, hws⟩, b6⟩
  obtain ⟨rfl, hed⟩ := opens_at hwf hk (by rw [HSK.out]; exact hws)
  rw [HEK.out] at hed
  subst hed
  have hS6 := hS5.below b6
  have hE6 := hE5.below b6
  have B6 : Below w.heap.size w w6 := B5.trans (b6.mono B5.size)
  clear hws b6 hS5 hE5 B5 x0
  by_cases hz : s = 0
  · subst hz
    obtain rfl := hwf.zero hk HSK.out
    go_wp2_with fail
    refine (f8_any w1.heap.size 0 n w3.heap.size 0 n n ss es 604799999999999 _ hn hS6 hE6 hwf (by omega) (by omega)).mono ?_
    rintro r w7 ⟨⟨o, ed, rfl, hws⟩, b7⟩
    obtain ⟨rfl, hed⟩ := closed_end hwf HSK.out hws
    subst hed
    have x1 := hE6.below b7 0 hk
    rw [Nat.zero_add, HEK.out] at x1
    have B7 : Below w.heap.size w w7 := B6.trans (b7.mono B6.size)
    clear hws b7 hS6 hE6 B6
    go_wp2
    go_ret
    exact ⟨rfl, B7⟩
  · have hpos : 0 < s := by omega
    clear hz
    go_wp2_with fail
    refine (f8_any w1.heap.size 0 n w3.heap.size 0 n n ss es (s * 60000000000 - 1) _ hn hS6 hE6 hwf (by omega) (by omega)).mono ?_
    rintro r w7 ⟨⟨o, ed, rfl, hws⟩, b7⟩
    obtain ⟨rfl, hed⟩ := closed_before hwf hk (by rw [HSK.out]; exact hpos) (by rw [HSK.out]; exact hws)
    rw [HSK.out] at hed
    subst hed
    have x1 := hE6.below b7 k hk
    rw [Nat.zero_add, HEK.out] at x1
    have B7 : Below w.heap.size w w7 := B6.trans (b7.mono B6.size)
    clear hws b7 hS6 hE6 B6
    go_wp2
    go_ret
    exact ⟨rfl, B7⟩
end Go.Proofs.Qxb6612694a
