import Derived.Test.Qxb6612815aWalks
namespace Go.Proofs.Qxb6612815a
open Go.RowKit Go.MuLone

theorem info3 : (Try.prog.info? 3).map (fun i => (i.zero, i.size, i.bytes)) = some (some (.int .i64 0), 1, 8) := by kernel_rfl
theorem size3 : (Try.prog.info? 3).map (·.size) = some 1 := by kernel_rfl

/-- n numbers as cells. -/
def ints (n : Nat) (zs : List Int) : List Value := (List.range n).map fun j => .int .i64 (zs.getD j 0)
theorem ints_length (n : Nat) (zs : List Int) : (ints n zs).length = n := by simp [ints]
theorem ints_at' {n : Nat} {zs : List Int} {j : Nat} {v : Value} (h : (ints n zs)[j]? = some v) : j < n ∧ v = .int .i64 (zs.getD j 0) := by
  unfold ints at h
  rw [List.getElem?_map] at h
  by_cases hj : j < n
  · rw [List.getElem?_range hj] at h
    exact ⟨hj, by simpa using h.symm⟩
  · rw [List.getElem?_eq_none (by simpa using hj)] at h
    simp at h
theorem ints_get {n : Nat} {zs : List Int} {j : Nat} (hj : j < n) : (ints n zs)[j]? = some (.int .i64 (zs.getD j 0)) := by
  unfold ints
  rw [List.getElem?_map, List.getElem?_range hj]; rfl
theorem ints_one {n : Nat} {zs : List Int} : ∀ v ∈ ints n zs, v.oneCell' = true := by
  intro v hv
  simp [ints] at hv
  obtain ⟨j, _, rfl⟩ := hv
  rfl

theorem row_of_own {w : World} {base g n : Nat} {xs : List Value} (h : w.ownsRow base 3 1 (.slice (some ⟨g, 0, none⟩) n n) n xs) : w.heap[g]? = some (.cells xs.toArray 3 (0, 0)) := by
  rcases h.2 with ⟨h', _⟩ | ⟨g', cap', cur, h', _, hg, _, _, hcs, htake⟩
  · simp at h'
  · simp only [Value.slice.injEq, Option.some.injEq, Addr.mk.injEq, and_true, true_and] at h'
    obtain ⟨rfl, rfl⟩ := h'
    have : cur.toList = xs := by rw [← htake, List.take_of_length_le (by simp; omega)]
    rw [← this]
    simpa using hg

theorem copied_row {w : World} {g n : Nat} {cur : List Value} {zs : List Int} (hl : cur.length = n) (h : w.heap[g]? = some (.cells (splice cur 0 (ints n zs)).toArray 3 (0, 0))) : Row w (some ⟨g, 0, none⟩) n zs := by
  have e : splice cur 0 (ints n zs) = ints n zs := by
    unfold splice
    rw [ints_length, List.drop_of_length_le (by omega)]
    simp
  rw [e] at h
  refine .inr ⟨g, 0, rfl, fun j hj => ?_⟩
  rw [Nat.zero_add, cell_of_row w g j _ 3 (0, 0) h]
  simpa using ints_get hj

theorem q23 (w : World) (a : Option Addr) (n c n' c' : Nat) : (binOp .neq 23 (.slice a n c) (.slice none n' c')).run Try.prog w = .ok (.bool (!a.isNone)) w := run_neq_slice_nil_any w 23 3 a n c n' c' Try.underlying23

/-- The generation behind q ends. -/
def gq (gen : Int) (q : Nat) : Int := IntKind.u64.wrap (gen + q)
theorem gq_zero (gen : Int) (h0 : 0 ≤ gen) (h1 : gen < 18446744073709551616) : gq gen 0 = gen := by
  unfold gq
  rw [IntKind.wrap_u64]
  omega
theorem gq_up (gen : Int) (q : Nat) : up (gq gen q) = gq gen (q + 1) := by
  unfold up gq
  simp only [IntKind.wrap_u64]
  omega
theorem gq_add (gen : Int) (q : Nat) : IntKind.u64.wrap (gen + ((q : Int) + 1)) = gq gen (q + 1) := by
  unfold gq
  simp
theorem gq_ne (gen : Int) (q : Nat) (hq : q ≤ 65536) (hp : 0 < q) : (gq gen q == gen) = false := by
  refine beq_eq_false_iff_ne.2 ?_
  unfold gq
  rw [IntKind.wrap_u64]
  omega

/-- It returns a bool. -/
def IsB (r : Ending) : Prop := ∃ x : Bool, r = .returned (.bool x)
theorem f4_any (a : Option Addr) (n cap : Nat) (gen k : Int) (wt : Bool) (w : World) (hn : n ≤ maxLen) :
    Calls Try.prog 4 #[.int .u64 gen, .slice a n cap, .bool wt, .int .i64 k] w fun r w' => IsB r ∧ w' = w := by
  unfold maxLen at hn
  go_enter Try.func4, Try.ntmps4
  go_wp2
  all_goals (go_ret; exact ⟨⟨_, rfl⟩, rfl⟩)

set_option maxHeartbeats 1000000 in
theorem f3_main (a : Option Addr) (n cap K : Nat) (zs : List Int) (gen : Int) (wt : Bool) (w : World) (hn : n ≤ 65536) (hK : K ≤ 65536) (hr : Row w a n zs) (h0 : a = none → n = 0 ∧ cap = 0) (g0 : 0 ≤ gen) (g1 : gen < 18446744073709551616) :
    Calls Try.prog 3 #[.int .u64 gen, .slice a n cap, .bool wt, .int .i64 K] w fun r w' => r = .returned (.bool true) ∧ Below w.heap.size w w' := by
  have hmx : n ≤ maxLen := by unfold maxLen; omega
  have qn := q23
  obtain ⟨i0, hi, hz0, hz1, hz2⟩ := info_parts info3
  have HI : Hid (Try.prog.info? 3 = some i0) := hi
  have HZ0 : Hid (i0.zero = some (.int .i64 0)) := hz0
  have HZ1 : Hid (i0.size = 1) := hz1
  have HZ2 : Hid (i0.bytes = 8) := hz2
  have HG : Hid (gq gen 0 = gen) := gq_zero gen g0 g1
  clear hi hz0 hz1 hz2 g0 g1
  have hk0 : decide ((K : Int) < 0) = false := decide_eq_false (by omega)
  have hk1 : decide ((65536 : Int) < (K : Int)) = false := decide_eq_false (by omega)
  cases a with
  | none =>
    obtain ⟨rfl, rfl⟩ := h0 rfl
    clear h0
    go_enter Try.func3, Try.ntmps3
    go_wp2_with fail
    refine (f4_any none 0 0 gen K wt w hmx).mono ?_
    rintro e w ⟨⟨x, rfl⟩, rfl⟩
    cases x
    · go_wp2
      go_ret
      exact ⟨rfl, Below.refl _ _⟩
    have B0 : Below w.heap.size w w := Below.refl _ _
    go_wp2_with fail
    refine (f5_any none 0 0 zs gen 0 wt _ hn hr).mono ?_
    rintro e w5 ⟨Bk, g, rfl, hcol, hown, hne, hB, hg, b5⟩
    have B5 : Below w.heap.size w w5 := B0.trans (b5.mono B0.size)
    have hB' : w.heap.size ≤ Bk := Nat.le_trans B0.size hB
    have hg' : w.heap.size ≤ g := Nat.le_trans B0.size hg
    clear b5 hB hg hr B0
    go_wp2
    go_loopw [12] (fun i wr => ∃ (q m : Nat) (tk : Int) (wq : Bool), q ≤ K ∧ i = .int .i64 ((q : Int) + 1) ∧ Col wr Bk 0 (gq gen q) g m 0 tk wq ∧ Own wr g m ∧ Below w.heap.size w wr) (fun i _ => K + 1 - (intOf i).toNat)
    case atStart => exact ⟨0, 0, 0, wt, Nat.zero_le _, rfl, by rw [HG.out]; exact hcol, hown, B5⟩
    case round =>
      obtain ⟨q, m, tk, wq, hq, rfl, hcol, hown, hb⟩ := hrel
      by_cases hlt : q < K
      · have hlt' : (q : Int) + 1 ≤ (K : Int) := by omega
        have hadd := gq_add gen q
        have hne2 := gq_ne gen (q + 1) (by omega) (by omega)
        have HU : Hid (up (gq gen q) = gq gen (q + 1)) := gq_up gen q
        go_wp2_with fail
        refine (f6_any Bk g m 0 w.heap.size (gq gen q) tk wq wr hcol hown hne hB' hg').mono ?_
        rintro e w6 ⟨rfl, hc6, b6⟩
        rw [HU.out] at hc6
        have B6 : Below w.heap.size w w6 := hb.trans b6
        clear b6 hb hcol hown
        go_wp2_with fail
        refine (f7_any Bk g 0 0 0 (gq gen (q + 1)) 0 false w6 hc6).mono ?_
        rintro e w7 ⟨rfl, hc7, nd, hw7⟩
        have B7 : Below w.heap.size w w7 := by rw [hw7]; exact below_drewN B6 _
        have HC7 : Hid (Col w7 Bk 0 (gq gen (q + 1)) g 0 0 0 false) := hc7
        clear hc7 hw7 hc6 B6 HU
        go_wp2
        go_roundw
        case rel => exact ⟨q + 1, 0, 0, false, by omega, by go_num, HC7.out, fun j hj => by omega, B7⟩
        case measure => simp [intOf]; omega
      · obtain rfl : q = K := by omega
        have hfin : IntKind.u64.wrap (gen + (q : Int)) = gq gen q := rfl
        go_wp2_with fail
        refine (f7_any Bk g m 0 0 (gq gen q) tk wq wr hcol).mono ?_
        rintro e w7 ⟨rfl, _, nd, hw7⟩
        have B7 : Below w.heap.size w w7 := by rw [hw7]; exact below_drewN hb _
        clear hw7 hcol hown hb
        go_wp2
        go_ret
        exact ⟨rfl, B7⟩
  | some x =>
    clear h0
    go_enter Try.func3, Try.ntmps3
    go_wp2_with fail
    refine (f4_any (some x) n cap gen K wt w hmx).mono ?_
    rintro e w ⟨⟨y, rfl⟩, rfl⟩
    cases y
    · go_wp2
      go_ret
      exact ⟨rfl, Below.refl _ _⟩
    go_wp2_with (at_make; refine wpList_make_full _ rfl (.tmp 39) (.tmp 39) 23 rfl w.heap.size 3 i0 (.int .i64 0) 1 Try.underlying23 HI.out HZ0.out HZ1.out .i64 .i64 _ _ n rfl rfl rfl rfl ?_ ?_ ?_ ?_)
    case refine_1 => rw [HZ2.out]; omega
    case refine_2 => unfold maxLen; omega
    case refine_3 => omega
    intro w2 hown hgrow
    have b2 : Below w.heap.size w w2 := (Below.refl _ _).grown hgrow (Nat.le_refl _) (by intro k hk; cases hk)
    obtain ⟨cur, hown⟩ : ∃ cur, w2.ownsRow w.heap.size 3 1 (.slice (some ⟨w.heap.size, 0, none⟩) n n) n cur := ⟨_, hown⟩
    have HROW : Hid (w2.heap[w.heap.size]? = some (.cells cur.toArray 3 (0, 0))) := row_of_own hown
    have HLEN : Hid (cur.length = n) := by have := hown.1; exact (by omega : cur.length = n)
    have hr2 := hr.below b2
    clear hgrow hown
    go_wp2_with (refine wpList_copy_splice rfl (.tmp 41) (.tmp 42) 23 23 rfl 3 Try.underlying23 size3 _ _ n n n cap rfl rfl w.heap.size 0 cur 3 HROW.out (ints n zs) ?_ ?_ ?_ ints_one w.heap.size w b2 (Nat.le_refl _) ?_)
    case refine_1 => rw [ints_length]; simp
    case refine_2 =>
      intro hpos j v hv
      rw [ints_length] at hpos
      obtain ⟨hj, rfl⟩ := ints_at' hv
      rcases hr2 with hr2 | ⟨b, off, hx, hc⟩
      · omega
      · cases hx
        rw [Go.WideShapes.add_plain]
        exact hc j hj
    case refine_3 => rw [ints_length, HLEN.out]; omega
    intro w3 hr3 b3
    have hr3' : Row w3 (some ⟨w.heap.size, 0, none⟩) n zs := copied_row HLEN.out hr3.out
    clear hr3 hr2 HROW HLEN b2 hr
    go_wp2_with fail
    refine (f5_any (some ⟨w.heap.size, 0, none⟩) n n zs gen 0 wt _ hn hr3').mono ?_
    rintro e w5 ⟨Bk, g, rfl, hcol, hown, hne, hB, hg, b5⟩
    have B5 : Below w.heap.size w w5 := b3.trans (b5.mono b3.size)
    have hB' : w.heap.size ≤ Bk := Nat.le_trans b3.size hB
    have hg' : w.heap.size ≤ g := Nat.le_trans b3.size hg
    clear b5 hB hg hr3' b3
    go_wp2
    go_loopw [12] (fun i wr => ∃ (q m : Nat) (tk : Int) (wq : Bool), q ≤ K ∧ i = .int .i64 ((q : Int) + 1) ∧ Col wr Bk 0 (gq gen q) g m n tk wq ∧ Own wr g m ∧ Below w.heap.size w wr) (fun i _ => K + 1 - (intOf i).toNat)
    case atStart => exact ⟨0, n, 0, wt, Nat.zero_le _, rfl, by rw [HG.out]; exact hcol, hown, B5⟩
    case round =>
      obtain ⟨q, m, tk, wq, hq, rfl, hcol, hown, hb⟩ := hrel
      by_cases hlt : q < K
      · have hlt' : (q : Int) + 1 ≤ (K : Int) := by omega
        have hadd := gq_add gen q
        have hne2 := gq_ne gen (q + 1) (by omega) (by omega)
        have HU : Hid (up (gq gen q) = gq gen (q + 1)) := gq_up gen q
        go_wp2_with fail
        refine (f6_any Bk g m n w.heap.size (gq gen q) tk wq wr hcol hown hne hB' hg').mono ?_
        rintro e w6 ⟨rfl, hc6, b6⟩
        rw [HU.out] at hc6
        have B6 : Below w.heap.size w w6 := hb.trans b6
        clear b6 hb hcol hown
        go_wp2_with fail
        refine (f7_any Bk g 0 n 0 (gq gen (q + 1)) 0 false w6 hc6).mono ?_
        rintro e w7 ⟨rfl, hc7, nd, hw7⟩
        have B7 : Below w.heap.size w w7 := by rw [hw7]; exact below_drewN B6 _
        have HC7 : Hid (Col w7 Bk 0 (gq gen (q + 1)) g 0 n 0 false) := hc7
        clear hc7 hw7 hc6 B6 HU
        go_wp2
        go_roundw
        case rel => exact ⟨q + 1, 0, 0, false, by omega, by go_num, HC7.out, fun j hj => by omega, B7⟩
        case measure => simp [intOf]; omega
      · obtain rfl : q = K := by omega
        have hfin : IntKind.u64.wrap (gen + (q : Int)) = gq gen q := rfl
        go_wp2_with fail
        refine (f7_any Bk g m n 0 (gq gen q) tk wq wr hcol).mono ?_
        rintro e w7 ⟨rfl, _, nd, hw7⟩
        have B7 : Below w.heap.size w w7 := by rw [hw7]; exact below_drewN hb _
        clear hw7 hcol hown hb
        go_wp2
        go_ret
        exact ⟨rfl, B7⟩

set_option maxHeartbeats 1000000 in
/-- Outside of what the law speaks of: true at once. -/
theorem f3_out (a : Option Addr) (n cap : Nat) (k gen : Int) (wt : Bool) (w : World) (hn : n ≤ maxLen) (hout : 65536 < n ∨ k < 0 ∨ 65536 < k) :
    Calls Try.prog 3 #[.int .u64 gen, .slice a n cap, .bool wt, .int .i64 k] w fun r w' => r = .returned (.bool true) ∧ Below w.heap.size w w' := by
  have HO : Hid (65536 < n ∨ k < 0 ∨ 65536 < k) := hout
  clear hout
  go_enter Try.func3, Try.ntmps3
  go_wp2_with fail
  refine (f4_any a n cap gen k wt w hn).mono ?_
  rintro e w ⟨⟨x, rfl⟩, rfl⟩
  cases x
  · go_wp2
    go_ret
    exact ⟨rfl, Below.refl _ _⟩
  unfold maxLen at hn
  by_cases c0 : 65536 < n
  · go_wp2
    go_ret
    exact ⟨rfl, Below.refl _ _⟩
  by_cases c1 : k < 0
  · have d1 : decide (k < 0) = true := decide_eq_true c1
    go_wp2
    go_ret
    exact ⟨rfl, Below.refl _ _⟩
  have d1 : decide (k < 0) = false := decide_eq_false c1
  have c2 : 65536 < k := by have := HO.out; omega
  have d2 : decide (65536 < k) = true := decide_eq_true c2
  go_wp2
  go_ret
  exact ⟨rfl, Below.refl _ _⟩

/-- WHAT THE WALK IS TOLD OF A SLICE OF INTEGERS THAT CAME IN: it is nil; or it leads to a row of 'cap' cells, the numbers 'zs' (the first 'len' are its elements, the rest its spare room), each fitting its kind. -/
def IsRow (k : IntKind) (w : World) (a : Option Addr) (len cap : Nat) (zs : List Int) : Prop :=
  (a = none ∧ len = 0 ∧ cap = 0 ∧ zs = []) ∨
  ∃ x, a = some x ∧ len ≤ cap ∧ cap ≤ maxLen ∧ zs.length = cap ∧ (∀ i, i < zs.length → w.cell? (x.add i) = some (.int k (zs.getD i 0))) ∧ ∀ n ∈ zs, (Lit.int k n).wf = true

theorem IsRow.row {w : World} {a : Option Addr} {len cap : Nat} {zs : List Int} (h : IsRow .i64 w a len cap zs) : Row w a len zs ∧ (a = none → len = 0 ∧ cap = 0) ∧ len ≤ maxLen := by
  rcases h with ⟨rfl, rfl, rfl, rfl⟩ | ⟨x, rfl, hl, hm, hz, hc, _⟩
  · exact ⟨.inl rfl, fun _ => ⟨rfl, rfl⟩, Nat.zero_le _⟩
  · refine ⟨?_, fun h => (by cases h), Nat.le_trans hl hm⟩
    by_cases h0 : len = 0
    · exact .inl h0
    · obtain ⟨b, off, rfl, hc'⟩ := ints_at hc (by omega)
      exact .inr ⟨b, off, rfl, fun j hj => hc' j (by omega)⟩

theorem law3 (a : Option Addr) (n cap : Nat) (zs : List Int) (k gen : Int) (wt : Bool) (w : World) (h : IsRow .i64 w a n cap zs) (g0 : 0 ≤ gen) (g1 : gen < 18446744073709551616) :
    Calls Try.prog 3 #[.int .u64 gen, .slice a n cap, .bool wt, .int .i64 k] w fun r w' => r = .returned (.bool true) ∧ Below w.heap.size w w' := by
  obtain ⟨hr, h0, hm⟩ := h.row
  by_cases hout : 65536 < n ∨ k < 0 ∨ 65536 < k
  · exact f3_out a n cap k gen wt w hm hout
  · obtain ⟨q, rfl⟩ := Int.eq_ofNat_of_zero_le (show 0 ≤ k by omega)
    exact f3_main a n cap q zs gen wt w (by omega) (by omega) hr h0 g0 g1
end Go.Proofs.Qxb6612815a
