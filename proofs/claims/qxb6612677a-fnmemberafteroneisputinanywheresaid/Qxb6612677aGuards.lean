import Derived.Test.Qxb6612677aCallees
namespace Go.Proofs.Qxb6612677a
open Go.RowKit

/-- It returns a bool. -/
def IsB (r : Ending) : Prop := ∃ x : Bool, r = .returned (.bool x)

/-- What is known of the slice of members that came in. -/
def Arg (w : World) (a : Option Addr) (n : Nat) (ms : List M) : Prop :=
  ms.length = n ∧ (n = 0 ∨ ∃ b off, a = some ⟨b, off, none⟩ ∧ Rows3 w b off ms) ∧ ∀ j, (ms.getD j m0).1.size ≤ maxLen

theorem Arg.below {w w' : World} {a : Option Addr} {n : Nat} {ms : List M} (h : Arg w a n ms) (hb : Below w.heap.size w w') : Arg w' a n ms := by
  refine ⟨h.1, ?_, h.2.2⟩
  rcases h.2.1 with h0 | ⟨b, off, ha, hr⟩
  · exact .inl h0
  · exact .inr ⟨b, off, ha, hr.below hb⟩

set_option maxHeartbeats 1000000 in
/-- zzBytes_FnMemberSplitsAtAnyCut. -/
theorem f7_pos (b off n cap : Nat) (ms : List M) (le cut : Int) (nl ind un key : ByteArray) (w : World) (hl : ms.length = n) (hr : Rows3 w b off ms) (hk : ∀ j, (ms.getD j m0).1.size ≤ maxLen)
    (hm : n ≤ maxLen) (h1 : nl.size ≤ maxLen) (h2 : ind.size ≤ maxLen) (h3 : un.size ≤ maxLen) (h4 : key.size ≤ maxLen) :
    Calls Try.prog 7 #[.slice (some ⟨b, off, none⟩) n cap, .int .i64 le, .string nl, .string ind, .string un, .string key, .int .i64 cut] w fun r w' => IsB r ∧ w' = w := by
  have HL : Hid (ms.length = n) := hl
  have HK : Hid (∀ j, (ms.getD j m0).1.size ≤ maxLen) := hk
  clear hl hk
  unfold maxLen at hm h1 h2 h3 h4
  by_cases hn : n ≤ 1048576
  · go_enter Try.func7, Try.ntmps7
    go_wp2
    go_loop [15, 16] (fun t i => ∃ (k : Nat) (z : Int), k ≤ n ∧ i = .int .i64 k ∧ t = .int .i64 z ∧ 0 ≤ z ∧ z ≤ 1048576) (fun _ i => n - (intOf i).toNat)
    case atStart => exact ⟨0, _, Nat.zero_le _, rfl, rfl, by omega, by omega⟩
    case round =>
      obtain ⟨k, z, hkn, rfl, rfl, hz0, hz1⟩ := hrel
      by_cases hlt : k < n
      · obtain ⟨x0, _, _⟩ := hr k (by have := HL.out; omega)
        have hs := HK.out k
        unfold maxLen at hs
        generalize (ms.getD k m0).1 = s at x0 hs
        go_wp2
        · go_ret; exact ⟨⟨_, rfl⟩, rfl⟩
        · go_ret; exact ⟨⟨_, rfl⟩, rfl⟩
        · go_round
          case rel => exact ⟨k + 1, _, by omega, by go_num, rfl, by omega, by omega⟩
          case measure => simp [intOf]; omega
      · go_wp2
        all_goals (go_ret; exact ⟨⟨_, rfl⟩, rfl⟩)
  · go_enter Try.func7, Try.ntmps7
    go_wp2
    all_goals (go_ret; exact ⟨⟨_, rfl⟩, rfl⟩)

set_option maxHeartbeats 1000000 in
theorem f7_zero (a : Option Addr) (cap : Nat) (le cut : Int) (nl ind un key : ByteArray) (w : World)
    (h1 : nl.size ≤ maxLen) (h2 : ind.size ≤ maxLen) (h3 : un.size ≤ maxLen) (h4 : key.size ≤ maxLen) :
    Calls Try.prog 7 #[.slice a 0 cap, .int .i64 le, .string nl, .string ind, .string un, .string key, .int .i64 cut] w fun r w' => IsB r ∧ w' = w := by
  unfold maxLen at h1 h2 h3 h4
  go_enter Try.func7, Try.ntmps7
  go_wp2
  refine wp_loop_rounds 1 ?_
  rw [rounds_succ]
  go_wp2
  all_goals (go_ret; exact ⟨⟨_, rfl⟩, rfl⟩)

theorem f7_any (a : Option Addr) (n cap : Nat) (ms : List M) (le cut : Int) (nl ind un key : ByteArray) (w : World) (h : Arg w a n ms) (hm : n ≤ maxLen) (h1 : nl.size ≤ maxLen) (h2 : ind.size ≤ maxLen) (h3 : un.size ≤ maxLen) (h4 : key.size ≤ maxLen) :
    Calls Try.prog 7 #[.slice a n cap, .int .i64 le, .string nl, .string ind, .string un, .string key, .int .i64 cut] w fun r w' => IsB r ∧ w' = w := by
  obtain ⟨hl, hr, hk⟩ := h
  rcases hr with rfl | ⟨b, off, rfl, hr⟩
  · exact f7_zero _ _ _ _ _ _ _ _ _ h1 h2 h3 h4
  · exact f7_pos b off n cap ms le cut nl ind un key w hl hr hk hm h1 h2 h3 h4

set_option maxHeartbeats 1000000 in
/-- zzBytes_FnMemberAfterOneIsPutInAnywhere. -/
theorem f12_pos (b off n cap : Nat) (ms : List M) (le cut : Int) (nl ind un key pk : ByteArray) (ps pe : Int) (w : World) (hl : ms.length = n) (hr : Rows3 w b off ms) (hk : ∀ j, (ms.getD j m0).1.size ≤ maxLen)
    (hm : n ≤ maxLen) (h1 : nl.size ≤ maxLen) (h2 : ind.size ≤ maxLen) (h3 : un.size ≤ maxLen) (h4 : key.size ≤ maxLen) (h5 : pk.size ≤ maxLen) :
    Calls Try.prog 12 #[.slice (some ⟨b, off, none⟩) n cap, .int .i64 le, .string nl, .string ind, .string un, .string key, .int .i64 cut, .agg #[.string pk, .int .i64 ps, .int .i64 pe]] w fun r w' => IsB r ∧ Below w.heap.size w w' := by
  have HL : Hid (ms.length = n) := hl
  have HK : Hid (∀ j, (ms.getD j m0).1.size ≤ maxLen) := hk
  clear hl hk
  have hb : ∀ o : Obj, Below w.heap.size w (w.alloc o) := fun o => (Below.refl _ _).alloc (Nat.le_refl _) _
  have HB : Hid (∀ o : Obj, Below w.heap.size w (w.alloc o)) := hb
  clear hb
  unfold maxLen at hm h1 h2 h3 h4 h5
  by_cases hn : n ≤ 1048576
  · go_enter Try.func12, Try.ntmps12
    go_wp2
    have hr' := hr.below (HB.out (Obj.cells #[.string pk, .int .i64 ps, .int .i64 pe] 32))
    clear hr
    go_loop [17, 18] (fun t i => ∃ (k : Nat) (z : Int), k ≤ n ∧ i = .int .i64 k ∧ t = .int .i64 z ∧ 0 ≤ z ∧ z ≤ 1048576) (fun _ i => n - (intOf i).toNat)
    case atStart => exact ⟨0, _, Nat.zero_le _, rfl, rfl, by omega, by omega⟩
    case round =>
      obtain ⟨k, z, hkn, rfl, rfl, hz0, hz1⟩ := hrel
      by_cases hlt : k < n
      · obtain ⟨x0, _, _⟩ := hr' k (by have := HL.out; omega)
        have hs := HK.out k
        unfold maxLen at hs
        generalize (ms.getD k m0).1 = s at x0 hs
        go_wp2
        · go_ret; exact ⟨⟨_, rfl⟩, HB.out _⟩
        · go_ret; exact ⟨⟨_, rfl⟩, HB.out _⟩
        · go_round
          case rel => exact ⟨k + 1, _, by omega, by go_num, rfl, by omega, by omega⟩
          case measure => simp [intOf]; omega
      · go_wp2
        all_goals (go_ret; exact ⟨⟨_, rfl⟩, HB.out _⟩)
  · go_enter Try.func12, Try.ntmps12
    go_wp2
    all_goals (go_ret; exact ⟨⟨_, rfl⟩, HB.out _⟩)

set_option maxHeartbeats 1000000 in
theorem f12_zero (a : Option Addr) (cap : Nat) (le cut : Int) (nl ind un key pk : ByteArray) (ps pe : Int) (w : World)
    (h1 : nl.size ≤ maxLen) (h2 : ind.size ≤ maxLen) (h3 : un.size ≤ maxLen) (h4 : key.size ≤ maxLen) (h5 : pk.size ≤ maxLen) :
    Calls Try.prog 12 #[.slice a 0 cap, .int .i64 le, .string nl, .string ind, .string un, .string key, .int .i64 cut, .agg #[.string pk, .int .i64 ps, .int .i64 pe]] w fun r w' => IsB r ∧ Below w.heap.size w w' := by
  have hb : ∀ o : Obj, Below w.heap.size w (w.alloc o) := fun o => (Below.refl _ _).alloc (Nat.le_refl _) _
  have HB : Hid (∀ o : Obj, Below w.heap.size w (w.alloc o)) := hb
  clear hb
  unfold maxLen at h1 h2 h3 h4 h5
  go_enter Try.func12, Try.ntmps12
  go_wp2
  refine wp_loop_rounds 1 ?_
  rw [rounds_succ]
  go_wp2
  all_goals (go_ret; exact ⟨⟨_, rfl⟩, HB.out _⟩)

theorem f12_any (a : Option Addr) (n cap : Nat) (ms : List M) (le cut : Int) (nl ind un key pk : ByteArray) (ps pe : Int) (w : World) (h : Arg w a n ms) (hm : n ≤ maxLen) (h1 : nl.size ≤ maxLen) (h2 : ind.size ≤ maxLen) (h3 : un.size ≤ maxLen) (h4 : key.size ≤ maxLen) (h5 : pk.size ≤ maxLen) :
    Calls Try.prog 12 #[.slice a n cap, .int .i64 le, .string nl, .string ind, .string un, .string key, .int .i64 cut, .agg #[.string pk, .int .i64 ps, .int .i64 pe]] w fun r w' => IsB r ∧ Below w.heap.size w w' := by
  obtain ⟨hl, hr, hk⟩ := h
  rcases hr with rfl | ⟨b, off, rfl, hr⟩
  · exact f12_zero _ _ _ _ _ _ _ _ _ _ _ _ h1 h2 h3 h4 h5
  · exact f12_pos b off n cap ms le cut nl ind un key pk ps pe w hl hr hk hm h1 h2 h3 h4 h5

/-- It returns a bool; if true, n is small. -/
def IsSmall (n : Nat) (r : Ending) : Prop := ∃ x : Bool, r = .returned (.bool x) ∧ (x = true → n ≤ 32768)
theorem isSmall_false (n : Nat) : IsSmall n (.returned (.bool false)) := ⟨false, rfl, fun h => by cases h⟩
theorem isSmall_true {n : Nat} (h : n ≤ 32768) : IsSmall n (.returned (.bool true)) := ⟨true, rfl, fun _ => h⟩

/-- The texts' cells. -/
theorem texts_at (t0 t1 t2 t3 t4 : ByteArray) (w : World) (h0 : t0.size ≤ maxLen) (h1 : t1.size ≤ maxLen) (h2 : t2.size ≤ maxLen) (h3 : t3.size ≤ maxLen) (h4 : t4.size ≤ maxLen) (k : Nat) (hk : k < 5) :
    ∃ s : ByteArray, (w.alloc (.cells #[.string t0, .string t1, .string t2, .string t3, .string t4] 25)).cell? ⟨w.heap.size, k, none⟩ = some (.string s) ∧ s.size ≤ maxLen := by
  match k, hk with
  | 0, _ => exact ⟨t0, by simp [go_sem], h0⟩
  | 1, _ => exact ⟨t1, by simp [go_sem], h1⟩
  | 2, _ => exact ⟨t2, by simp [go_sem], h2⟩
  | 3, _ => exact ⟨t3, by simp [go_sem], h3⟩
  | 4, _ => exact ⟨t4, by simp [go_sem], h4⟩

theorem f8_long (a : Option Addr) (n cap : Nat) (t0 t1 t2 t3 t4 : ByteArray) (w : World) (hm : n ≤ maxLen) (hn : 32768 < n) :
    Calls Try.prog 8 #[.slice a n cap, .agg #[.string t0, .string t1, .string t2, .string t3, .string t4]] w fun r w' => IsSmall n r ∧ Below w.heap.size w w' := by
  unfold maxLen at hm
  go_enter Try.func8, Try.ntmps8
  go_wp2
  go_ret
  exact ⟨isSmall_false n, (Below.refl _ _).alloc (Nat.le_refl _) _⟩

set_option maxHeartbeats 1000000 in
/-- zzMembersSmall. -/
theorem f8_short (a : Option Addr) (n cap : Nat) (ms : List M) (t0 t1 t2 t3 t4 : ByteArray) (w : World) (h : Arg w a n ms) (hn : n ≤ 32768)
    (h0 : t0.size ≤ maxLen) (h1 : t1.size ≤ maxLen) (h2 : t2.size ≤ maxLen) (h3 : t3.size ≤ maxLen) (h4 : t4.size ≤ maxLen) :
    Calls Try.prog 8 #[.slice a n cap, .agg #[.string t0, .string t1, .string t2, .string t3, .string t4]] w fun r w' => IsSmall n r ∧ Below w.heap.size w w' := by
  have hts := texts_at t0 t1 t2 t3 t4 w h0 h1 h2 h3 h4
  have HT : Hid (∀ k, k < 5 → ∃ s : ByteArray, (w.alloc (.cells #[.string t0, .string t1, .string t2, .string t3, .string t4] 25)).cell? ⟨w.heap.size, k, none⟩ = some (.string s) ∧ s.size ≤ maxLen) := hts
  have hb : ∀ o : Obj, Below w.heap.size w (w.alloc o) := fun o => (Below.refl _ _).alloc (Nat.le_refl _) _
  have HB : Hid (∀ o : Obj, Below w.heap.size w (w.alloc o)) := hb
  have ha := h.below (hb (.cells #[.string t0, .string t1, .string t2, .string t3, .string t4] 25))
  clear hts hb h h0 h1 h2 h3 h4
  go_enter Try.func8, Try.ntmps8
  go_wp2
  go_loop [5, 6] (fun t i => ∃ (k : Nat) (z : Int), k ≤ 5 ∧ i = .int .i64 k ∧ t = .int .i64 z ∧ 0 ≤ z ∧ z ≤ 1048576) (fun _ i => 5 - (intOf i).toNat)
  case atStart => exact ⟨0, _, Nat.zero_le _, rfl, rfl, by omega, by omega⟩
  case round =>
    obtain ⟨k, z, hk, rfl, rfl, hz0, hz1⟩ := hrel
    by_cases hlt : k < 5
    · obtain ⟨s, hs, hsz⟩ := HT.out k hlt
      go_wp2_with fail
      refine (f20_any z s _ hz0 hz1 hsz).mono ?_
      rintro e w1 ⟨z', rfl, hz0', hz1', rfl⟩
      go_wp2
      · go_ret; exact ⟨isSmall_false n, HB.out _⟩
      · go_round
        case rel => exact ⟨k + 1, _, by omega, by go_num, rfl, by omega, by omega⟩
        case measure => simp [intOf]; omega
    · go_wp2
      go_loop [5, 7] (fun t i => ∃ (k : Nat) (z : Int), k ≤ n ∧ i = .int .i64 k ∧ t = .int .i64 z ∧ 0 ≤ z ∧ z ≤ 1048576) (fun _ i => n - (intOf i).toNat)
      case atStart => exact ⟨0, _, Nat.zero_le _, rfl, rfl, by omega, by omega⟩
      case round =>
        obtain ⟨q, y, hq, rfl, rfl, hy0, hy1⟩ := hrel
        by_cases hql : q < n
        · obtain ⟨hl, hr, hks⟩ := ha
          rcases hr with hr | ⟨b, off, rfl, hr⟩
          · omega
          obtain ⟨x0, _, _⟩ := hr q (by omega)
          have hs := hks q
          generalize (ms.getD q m0).1 = s at x0 hs
          clear hks hl hr
          go_wp2_with fail
          refine (f20_any y s _ hy0 hy1 hs).mono ?_
          rintro e w1 ⟨z', rfl, hz0', hz1', rfl⟩
          go_wp2
          · go_ret; exact ⟨isSmall_false n, HB.out _⟩
          · go_round
            case rel => exact ⟨q + 1, _, by omega, by go_num, rfl, by omega, by omega⟩
            case measure => simp [intOf]; omega
        · go_wp2
          go_ret
          exact ⟨isSmall_true hn, HB.out _⟩

theorem f8_any (a : Option Addr) (n cap : Nat) (ms : List M) (t0 t1 t2 t3 t4 : ByteArray) (w : World) (h : Arg w a n ms) (hm : n ≤ maxLen)
    (h0 : t0.size ≤ maxLen) (h1 : t1.size ≤ maxLen) (h2 : t2.size ≤ maxLen) (h3 : t3.size ≤ maxLen) (h4 : t4.size ≤ maxLen) :
    Calls Try.prog 8 #[.slice a n cap, .agg #[.string t0, .string t1, .string t2, .string t3, .string t4]] w fun r w' => IsSmall n r ∧ Below w.heap.size w w' := by
  by_cases hn : n ≤ 32768
  · exact f8_short a n cap ms t0 t1 t2 t3 t4 w h hn h0 h1 h2 h3 h4
  · exact f8_long a n cap t0 t1 t2 t3 t4 w hm (by omega)
end Go.Proofs.Qxb6612677a
