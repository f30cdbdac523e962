import Derived.Test.Qxb6612694aEnds4
namespace Go.Proofs.Qxb6612694a
open Go.RowKit

/-- What agB1OpenAt hands back. -/
def IsOpen (ss es : List Int) (n : Nat) (pos : Int) (r : Ending) : Prop := ∃ x : Bool, r = .returned (.bool x) ∧ (x = true ↔ OpenAt ss es n pos)

set_option maxHeartbeats 1000000 in
theorem f9_any (b off cap b' off' cap' n : Nat) (ss es : List Int) (pos : Int) (w : World) (hn : n ≤ 65536) (hS : Row w b off n ss) (hE : Row w b' off' n es) (hwf : WF ss es n) (hp0 : 0 ≤ pos) (hp1 : pos < 604800000000000) :
    Calls Try.prog 9 #[.slice (some ⟨b, off, none⟩) n cap, .slice (some ⟨b', off', none⟩) n cap', .int .i64 pos] w fun r w' => IsOpen ss es n pos r ∧ w' = w := by
  have hpos := hwf.pos
  have y1 := hE (n - 1) (by omega)
  have hlast := hwf.ebound (n - 1) (by omega)
  have hq0 : 0 ≤ pos / 60000000000 := by omega
  have hq1 : pos / 60000000000 < 10080 := by omega
  have HS : Hid (Row w b off n ss) := hS
  have HE : Hid (Row w b' off' n es) := hE
  have hn1 : (1 : Int) ≤ (n : Int) := by omega
  clear hS hE hwf
  generalize hel : es.getD (n - 1) 0 = el at y1 hlast
  have HEL : Hid (es.getD (n - 1) 0 = el) := hel
  clear hel
  by_cases hcase : pos / 60000000000 < el - 10080
  · go_enter Try.func9, Try.ntmps9
    go_wp2
    go_ret
    exact ⟨⟨true, rfl, fun _ => .inl (by rw [HEL.out]; exact hcase), fun _ => rfl⟩, rfl⟩
  · have hcase' : ¬ pos / 60000000000 < el - 10080 := hcase
    clear hcase
    go_enter Try.func9, Try.ntmps9
    go_wp2
    go_loop [9] (fun i => ∃ k : Nat, k ≤ n ∧ i = .int .i64 k ∧ Hid (∀ j, j < k → ¬ (ss.getD j 0 ≤ pos / 60000000000 ∧ pos / 60000000000 < es.getD j 0))) (fun i => n - (intOf i).toNat)
    case atStart => exact ⟨0, Nat.zero_le _, rfl, fun j hj => by omega⟩
    case round =>
      obtain ⟨k, hk, rfl, hno⟩ := hrel
      by_cases hlt : k < n
      · have hlt' : (k : Int) < (n : Int) := by omega
        have x0 := HS.out k hlt
        have x1 := HE.out k hlt
        generalize hsk : ss.getD k 0 = s at x0
        generalize hek : es.getD k 0 = e at x1
        have HSK : Hid (ss.getD k 0 = s) := hsk
        have HEK : Hid (es.getD k 0 = e) := hek
        clear hsk hek
        by_cases c1 : s ≤ pos / 60000000000
        · have d1 : decide (s ≤ pos / 60000000000) = true := decide_eq_true c1
          by_cases c2 : pos / 60000000000 < e
          · have d2 : decide (pos / 60000000000 < e) = true := decide_eq_true c2
            go_wp2
            go_ret
            exact ⟨⟨true, rfl, fun _ => .inr ⟨k, hlt, by rw [HSK.out]; exact c1, by rw [HEK.out]; exact c2⟩, fun _ => rfl⟩, rfl⟩
          · have d2 : decide (pos / 60000000000 < e) = false := decide_eq_false c2
            go_wp2
            go_round
            case rel =>
              refine ⟨k + 1, by omega, by go_num, fun j hj => ?_⟩
              by_cases ej : j = k
              · rw [ej, HSK.out, HEK.out]; omega
              · exact hno.out j (by omega)
            case measure => simp [intOf]; omega
        · have d1 : decide (s ≤ pos / 60000000000) = false := decide_eq_false c1
          go_wp2
          go_round
          case rel =>
            refine ⟨k + 1, by omega, by go_num, fun j hj => ?_⟩
            by_cases ej : j = k
            · rw [ej, HSK.out, HEK.out]; omega
            · exact hno.out j (by omega)
          case measure => simp [intOf]; omega
      · go_wp2
        go_ret
        refine ⟨⟨false, rfl, fun h => (by cases h), fun h => ?_⟩, rfl⟩
        rcases h with h | ⟨j, hj, h1, h2⟩
        · rw [HEL.out] at h; omega
        · exact absurd ⟨h1, h2⟩ (hno.out j (by omega))

set_option maxHeartbeats 2000000 in
theorem f3_main (b off cap b' off' cap' n : Nat) (ss es : List Int) (pos : Int) (w : World) (hpn : 0 < n) (hn : n ≤ 65536) (hS : Row w b off n ss) (hE : Row w b' off' n es) (hp0 : 0 ≤ pos) (hp1 : pos < 604800000000000) :
    Calls Try.prog 3 #[.slice (some ⟨b, off, none⟩) n cap, .slice (some ⟨b', off', none⟩) n cap', .int .i64 pos] w fun r w' => r = .returned (.bool true) ∧ Below w.heap.size w w' := by
  have hmx : n ≤ maxLen := by unfold maxLen; omega
  have q := q22
  obtain ⟨i0, hi, hz0, hz1, hz2⟩ := info_parts info3
  have HI : Hid (Try.prog.info? 3 = some i0) := hi
  have HZ0 : Hid (i0.zero = some (.int .i64 0)) := hz0
  have HZ1 : Hid (i0.size = 1) := hz1
  have HZ2 : Hid (i0.bytes = 8) := hz2
  clear hi hz0 hz1 hz2
  have hk0 : decide (pos < 0) = false := decide_eq_false (by omega)
  have hk1 : decide (604800000000000 ≤ pos) = false := decide_eq_false (by omega)
  go_enter Try.func3, Try.ntmps3
  go_wp2_with fail
  refine (f5_any _ _ n n cap cap' pos w hmx hmx).mono ?_
  rintro e w ⟨⟨x, rfl⟩, rfl⟩
  cases x
  · go_wp2
    go_ret
    exact ⟨rfl, Below.refl _ _⟩
  go_wp2_with fail
  refine (f6_any _ _ n n cap cap' w hmx hmx).mono ?_
  rintro e w ⟨⟨x, rfl, -⟩, rfl⟩
  cases x
  case true =>
    go_wp2
    go_ret
    exact ⟨rfl, Below.refl _ _⟩
  go_wp2_with fail
  refine (f7_pos b off cap b' off' cap' n ss es w hn hpn hS hE).mono ?_
  rintro e w1 ⟨⟨x, rfl, hx⟩, b1⟩
  cases x
  · clear hx
    go_wp2
    go_ret
    exact ⟨rfl, b1⟩
  obtain ⟨-, hwf⟩ := hx rfl
  clear hx
  have hS1 := hS.below b1
  have hE1 := hE.below b1
  clear hS hE
  go_wp2_with (at_make; refine wpList_make_full _ rfl (.tmp 39) (.tmp 39) 22 rfl w1.heap.size 3 i0 (.int .i64 0) 1 Try.underlying22 HI.out HZ0.out HZ1.out .i64 .i64 _ _ n rfl rfl rfl rfl ?_ ?_ ?_ ?_)
  case refine_1 => rw [HZ2.out]; omega
  case refine_2 => unfold maxLen; omega
  case refine_3 => omega
  intro w2 hown hgrow
  have b2 : Below w1.heap.size w1 w2 := (Below.refl _ _).grown hgrow (Nat.le_refl _) (by intro k hk; cases hk)
  obtain ⟨cur, hown⟩ : ∃ cur, w2.ownsRow w1.heap.size 3 1 (.slice (some ⟨w1.heap.size, 0, none⟩) n n) n cur := ⟨_, hown⟩
  have HROW : Hid (w2.heap[w1.heap.size]? = some (.cells cur.toArray 3 (0, 0))) := row_of_own hown
  have HLEN : Hid (cur.length = n) := by have := hown.1; exact (by omega : cur.length = n)
  have hS2 := hS1.below b2
  clear hgrow hown
  go_wp2_with (refine wpList_copy_splice rfl (.tmp 41) (.tmp 42) 22 22 rfl 3 Try.underlying22 size3 _ _ n n n cap rfl rfl w1.heap.size 0 cur 3 HROW.out (ints n ss) ?_ ?_ ?_ ints_one w1.heap.size w1 b2 (Nat.le_refl _) ?_)
  case refine_1 => rw [ints_length]; simp
  case refine_2 => intro _ j v hv; obtain ⟨hj, rfl⟩ := ints_at' hv; exact hS2 j hj
  case refine_3 => rw [ints_length, HLEN.out]; omega
  intro w3 hr3 b3
  have hS3 : Row w3 w1.heap.size 0 n ss := copied_row HLEN.out hr3.out
  have hE3 := hE1.below b3
  have B3 : Below w.heap.size w w3 := b1.trans (b3.mono b1.size)
  clear hr3 b3 hS2 HROW HLEN b2 hS1 hE1 b1
  go_wp2_with (at_make; refine wpList_make_full _ rfl (.tmp 48) (.tmp 48) 22 rfl w3.heap.size 3 i0 (.int .i64 0) 1 Try.underlying22 HI.out HZ0.out HZ1.out .i64 .i64 _ _ n rfl rfl rfl rfl ?_ ?_ ?_ ?_)
  case refine_1 => rw [HZ2.out]; omega
  case refine_2 => unfold maxLen; omega
  case refine_3 => omega
  intro w4 hown hgrow
  have b4 : Below w3.heap.size w3 w4 := (Below.refl _ _).grown hgrow (Nat.le_refl _) (by intro k hk; cases hk)
  obtain ⟨cur, hown⟩ : ∃ cur, w4.ownsRow w3.heap.size 3 1 (.slice (some ⟨w3.heap.size, 0, none⟩) n n) n cur := ⟨_, hown⟩
  have HROW : Hid (w4.heap[w3.heap.size]? = some (.cells cur.toArray 3 (0, 0))) := row_of_own hown
  have HLEN : Hid (cur.length = n) := by have := hown.1; exact (by omega : cur.length = n)
  have hE4 := hE3.below b4
  clear hgrow hown
  go_wp2_with (refine wpList_copy_splice rfl (.tmp 50) (.tmp 51) 22 22 rfl 3 Try.underlying22 size3 _ _ n n n cap' rfl rfl w3.heap.size 0 cur 3 HROW.out (ints n es) ?_ ?_ ?_ ints_one w3.heap.size w3 b4 (Nat.le_refl _) ?_)
  case refine_1 => rw [ints_length]; simp
  case refine_2 => intro _ j v hv; obtain ⟨hj, rfl⟩ := ints_at' hv; exact hE4 j hj
  case refine_3 => rw [ints_length, HLEN.out]; omega
  intro w5 hr5 b5
  have hE5 : Row w5 w3.heap.size 0 n es := copied_row HLEN.out hr5.out
  have hS5 := hS3.below b5
  have B5 : Below w.heap.size w w5 := B3.trans (b5.mono B3.size)
  clear hr5 b5 hE4 HROW HLEN b4 hE3 hS3 B3 HI HZ0 HZ1 HZ2 q
  go_wp2_with fail
  refine (f8_any w1.heap.size 0 n w3.heap.size 0 n n ss es pos _ hn hS5 hE5 hwf hp0 hp1).mono ?_
  rintro r w6 ⟨⟨o, ed, rfl, hws⟩, b6⟩
  have hS6 := hS5.below b6
  have hE6 := hE5.below b6
  have B6 : Below w.heap.size w w6 := B5.trans (b6.mono B5.size)
  have HWS : Hid (WS ss es n pos o ed) := hws
  clear hws b6 hS5 hE5 B5
  go_wp2_with fail
  refine (f9_any w1.heap.size 0 n w3.heap.size 0 n n ss es pos _ hn hS6 hE6 hwf hp0 hp1).mono ?_
  rintro r w6 ⟨⟨x, rfl, hx⟩, rfl⟩
  obtain rfl : o = x := by
    have h1 := ws_open hwf HWS.out
    rw [← hx] at h1
    cases o <;> cases x <;> simp at h1 <;> rfl
  clear hx
  obtain ⟨e1, e2, e3, e4, e5⟩ := ws_edge hwf hp0 hp1 HWS.out
  have f1 : decide (ed ≤ pos) = false := decide_eq_false (by omega)
  have f2 : decide (604800000000000 < ed - pos) = false := decide_eq_false (by omega)
  have f3 : (ed % 60000000000 != 0) = false := by rw [e3]; rfl
  clear e3
  by_cases c1 : 604800000000000 ≤ ed - 1
  · go_wp2_with fail
    refine (f8_any w1.heap.size 0 n w3.heap.size 0 n n ss es (ed - 1 - 604800000000000) _ hn hS6 hE6 hwf (by omega) (by omega)).mono ?_
    rintro r w7 ⟨⟨o', ed', rfl, hws⟩, b7⟩
    obtain ⟨rfl, rfl⟩ := ws_before_wrap hwf HWS.out c1 hws
    have hS7 := hS6.below b7
    have hE7 := hE6.below b7
    have B7 : Below w.heap.size w w7 := B6.trans (b7.mono B6.size)
    clear hws b7 hS6 hE6 B6
    go_wp2_with fail
    refine (f8_any w1.heap.size 0 n w3.heap.size 0 n n ss es (ed - 604800000000000) _ hn hS7 hE7 hwf (by omega) (by omega)).mono ?_
    rintro r w8 ⟨⟨o'', ed'', rfl, hws⟩, b8⟩
    obtain rfl := ws_at_wrap hwf HWS.out (by omega) hws
    have B8 : Below w.heap.size w w8 := B7.trans (b8.mono B7.size)
    clear hws b8 hS7 hE7 B7 HWS
    cases o' <;> (go_wp2; go_ret; exact ⟨rfl, B8⟩)
  · by_cases c2 : 604800000000000 ≤ ed
    · go_wp2_with fail
      refine (f8_any w1.heap.size 0 n w3.heap.size 0 n n ss es (ed - 1) _ hn hS6 hE6 hwf (by omega) (by omega)).mono ?_
      rintro r w7 ⟨⟨o', ed', rfl, hws⟩, b7⟩
      obtain ⟨rfl, rfl⟩ := ws_before hwf hp0 HWS.out (by omega) hws
      have hS7 := hS6.below b7
      have hE7 := hE6.below b7
      have B7 : Below w.heap.size w w7 := B6.trans (b7.mono B6.size)
      clear hws b7 hS6 hE6 B6
      go_wp2_with fail
      refine (f8_any w1.heap.size 0 n w3.heap.size 0 n n ss es (ed' - 604800000000000) _ hn hS7 hE7 hwf (by omega) (by omega)).mono ?_
      rintro r w8 ⟨⟨o'', ed'', rfl, hws⟩, b8⟩
      obtain rfl := ws_at_wrap hwf HWS.out (by omega) hws
      have B8 : Below w.heap.size w w8 := B7.trans (b8.mono B7.size)
      clear hws b8 hS7 hE7 B7 HWS
      cases o' <;> (go_wp2; go_ret; exact ⟨rfl, B8⟩)
    · go_wp2_with fail
      refine (f8_any w1.heap.size 0 n w3.heap.size 0 n n ss es (ed - 1) _ hn hS6 hE6 hwf (by omega) (by omega)).mono ?_
      rintro r w7 ⟨⟨o', ed', rfl, hws⟩, b7⟩
      obtain ⟨rfl, rfl⟩ := ws_before hwf hp0 HWS.out (by omega) hws
      have hS7 := hS6.below b7
      have hE7 := hE6.below b7
      have B7 : Below w.heap.size w w7 := B6.trans (b7.mono B6.size)
      clear hws b7 hS6 hE6 B6
      go_wp2_with fail
      refine (f8_any w1.heap.size 0 n w3.heap.size 0 n n ss es ed' _ hn hS7 hE7 hwf (by omega) (by omega)).mono ?_
      rintro r w8 ⟨⟨o'', ed'', rfl, hws⟩, b8⟩
      obtain rfl := ws_at hwf HWS.out (by omega) hws
      have B8 : Below w.heap.size w w8 := B7.trans (b8.mono B7.size)
      clear hws b8 hS7 hE7 B7 HWS
      cases o' <;> (go_wp2; go_ret; exact ⟨rfl, B8⟩)

set_option maxHeartbeats 1000000 in
/-- Outside of what the law speaks of: true at once. -/
theorem f3_out (a a' : Option Addr) (n n' cap cap' : Nat) (ss es : List Int) (pos : Int) (w : World) (hn : n ≤ maxLen) (hn' : n' ≤ maxLen) (hout : 65536 < n ∨ n' ≠ n ∨ n = 0 ∨ pos < 0 ∨ 604800000000000 ≤ pos) :
    Calls Try.prog 3 #[.slice a n cap, .slice a' n' cap', .int .i64 pos] w fun r w' => r = .returned (.bool true) ∧ Below w.heap.size w w' := by
  have HO : Hid (65536 < n ∨ n' ≠ n ∨ n = 0 ∨ pos < 0 ∨ 604800000000000 ≤ pos) := hout
  clear hout
  go_enter Try.func3, Try.ntmps3
  go_wp2_with fail
  refine (f5_any _ _ n n' cap cap' pos w hn hn').mono ?_
  rintro e w ⟨⟨x, rfl⟩, rfl⟩
  cases x
  · go_wp2
    go_ret
    exact ⟨rfl, Below.refl _ _⟩
  go_wp2_with fail
  refine (f6_any _ _ n n' cap cap' w hn hn').mono ?_
  rintro e w ⟨⟨x, rfl, hx⟩, rfl⟩
  cases x
  case true =>
    go_wp2
    go_ret
    exact ⟨rfl, Below.refl _ _⟩
  obtain ⟨g1, g2⟩ := hx rfl
  clear hx hn hn'
  by_cases k0 : pos < 0
  · have d0 : decide (pos < 0) = true := decide_eq_true k0
    go_wp2
    go_ret
    exact ⟨rfl, Below.refl _ _⟩
  have d0 : decide (pos < 0) = false := decide_eq_false k0
  by_cases k1 : 604800000000000 ≤ pos
  · have d1 : decide (604800000000000 ≤ pos) = true := decide_eq_true k1
    go_wp2
    go_ret
    exact ⟨rfl, Below.refl _ _⟩
  have d1 : decide (604800000000000 ≤ pos) = false := decide_eq_false k1
  have hne : n = 0 ∨ n' ≠ n := by have := HO.out; omega
  have HNE : Hid (n = 0 ∨ n' ≠ n) := hne
  clear hne
  go_wp2_with fail
  refine (f7_zero _ _ n n' cap cap' ss es w g1 HNE.out).mono ?_
  rintro e w1 ⟨⟨x, rfl, hx⟩, b1⟩
  cases x
  · clear hx
    go_wp2
    go_ret
    exact ⟨rfl, b1⟩
  · have h1 := hx rfl
    have h2 := h1.2.pos
    have h3 := HNE.out
    omega

theorem law3 (a a' : Option Addr) (n n' cap cap' : Nat) (ss es : List Int) (pos : Int) (w : World) (hs : IsRow .i64 w a n cap ss) (he : IsRow .i64 w a' n' cap' es) :
    Calls Try.prog 3 #[.slice a n cap, .slice a' n' cap', .int .i64 pos] w fun r w' => r = .returned (.bool true) ∧ Below w.heap.size w w' := by
  by_cases hout : 65536 < n ∨ n' ≠ n ∨ n = 0 ∨ pos < 0 ∨ 604800000000000 ≤ pos
  · exact f3_out a a' n n' cap cap' ss es pos w hs.len he.len hout
  · obtain rfl : n' = n := by omega
    obtain ⟨b, off, rfl, rs⟩ := hs.row (by omega)
    obtain ⟨b', off', rfl, re⟩ := he.row (by omega)
    exact f3_main b off cap b' off' cap' n' ss es pos w (by omega) (by omega) rs re (by omega) (by omega)
end Go.Proofs.Qxb6612694a
