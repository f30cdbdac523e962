import Derived.Test.Qxb6613853aRows
import Derived.WalkKit
import Derived.ProofKit
import Derived.OpenShut
import Derived.ShutString
import Derived.ChangeOld
import Derived.Below
import Derived.WalkSpells
import Derived.WalkLawsBesides
import Derived.Lib.SliceRun
import Derived.Deep.QuietTactic
import Derived.BigQuiet
import Derived.Handy
namespace Go.Proofs.Qxb6613853a
open Go.RowKit

/-- A slice of n bytes at 'a' reads as the numbers zs. -/
def Row (w : World) (a : Option Addr) (n : Nat) (zs : List Int) : Prop :=
  n = 0 ∨ ∃ b off, a = some ⟨b, off, none⟩ ∧ ∀ j, j < n → w.cell? ⟨b, off + j, none⟩ = some (.int .u8 (zs.getD j 0))

theorem Row.below {w w' : World} {a : Option Addr} {n : Nat} {zs : List Int} (h : Row w a n zs) (hb : Below w.heap.size w w') : Row w' a n zs := by
  rcases h with h | ⟨b, off, ha, hc⟩
  · exact .inl h
  · exact .inr ⟨b, off, ha, fun j hj => (hb.cell (World.block_lt_of_cell? w _ (hc j hj))).trans (hc j hj)⟩

theorem info5 : (Try.prog.info? 5).map (fun i => (i.zero, i.size, i.bytes)) = some (some (.int .u8 0), 1, 1) := by kernel_rfl

theorem q22 (w : World) (a : Option Addr) (n c n' c' : Nat) : (binOp .eql 22 (.slice a n c) (.slice none n' c')).run Try.prog w = .ok (.bool a.isNone) w :=
  Lib.run_eql_slice_nil w 22 5 a n c n' c' Try.underlying22

/-- 'cloneBytesCodecB1' of a nil slice. -/
theorem clone_nil (w : World) : Calls Try.prog 7 #[.slice none 0 0] w fun e w' => e = .returned (.slice none 0 0) ∧ w' = w := by
  have q := q22
  go_enter Try.func7, Try.ntmps7
  go_wp2
  go_ret
  exact ⟨rfl, rfl⟩

/-- What the round of the copy loop leaves: one cell more is copied. -/
theorem copy_step {w wr : World} {n k : Nat} {zs : List Int} {xs : List Value} (hk : k < n)
    (hown : wr.ownsRow w.heap.size 5 1 (.slice (some ⟨w.heap.size, 0, none⟩) n n) n xs) (hxs : ∀ j, j < k → xs[j]? = some (.int .u8 (zs.getD j 0))) (hb : Below w.heap.size w wr) :
    (∃ ys, (wr.setCell ⟨w.heap.size, k, none⟩ (.int .u8 (zs.getD k 0))).ownsRow w.heap.size 5 1 (.slice (some ⟨w.heap.size, 0, none⟩) n n) n ys ∧ ∀ j, j < k + 1 → ys[j]? = some (.int .u8 (zs.getD j 0))) ∧
      Below w.heap.size w (wr.setCell ⟨w.heap.size, k, none⟩ (.int .u8 (zs.getD k 0))) := by
  have hl : xs.length = n := by have := hown.1; omega
  refine ⟨⟨_, (hown.stored k _).1, fun j hj => ?_⟩, hb.setCell (Nat.le_refl _) _⟩
  by_cases e : j = k
  · subst e
    rw [List.getElem?_set_self (by omega)]
  · rw [List.getElem?_set_ne (by omega)]
    exact hxs j (by omega)

theorem copy_end {w wr : World} {n : Nat} {zs : List Int} {xs : List Value}
    (hown : wr.ownsRow w.heap.size 5 1 (.slice (some ⟨w.heap.size, 0, none⟩) n n) n xs) (hxs : ∀ j, j < n → xs[j]? = some (.int .u8 (zs.getD j 0))) :
    Row wr (some ⟨w.heap.size, 0, none⟩) n zs :=
  .inr ⟨_, _, rfl, fun j hj => by rw [Nat.zero_add, hown.cellAt j (by omega)]; exact hxs j hj⟩

set_option maxHeartbeats 400000 in
theorem clone_pos (b off n cap : Nat) (zs : List Int) (w : World) (hn : n ≤ 1048576) (hc : ∀ j, j < n → w.cell? ⟨b, off + j, none⟩ = some (.int .u8 (zs.getD j 0))) :
    Calls Try.prog 7 #[.slice (some ⟨b, off, none⟩) n cap] w fun e w' => ∃ a c, e = .returned (.slice a n c) ∧ Row w' a n zs ∧ (a = none → n = 0 ∧ c = 0) ∧ Below w.heap.size w w' := by
  have q := q22
  obtain ⟨i0, hi, hz0, hz1, hz2⟩ := info_parts info5
  go_enter Try.func7, Try.ntmps7
  go_wp2_with (at_make; refine wpList_make_full _ rfl _ _ 22 rfl w.heap.size 5 i0 (.int .u8 0) 1 Try.underlying22 hi hz0 hz1 .i64 .i64 _ _ n rfl rfl rfl rfl ?_ ?_ ?_ ?_)
  case refine_1 => rw [hz2]; omega
  case refine_2 => unfold maxLen; omega
  case refine_3 => omega
  intro w1 hown hgrow
  have hb : Below w.heap.size w w1 := (Below.refl _ _).grown hgrow (Nat.le_refl _) (by intro k hk; cases hk)
  clear hgrow hi hz0 hz1 hz2
  have Hc : Hid (∀ j, j < n → w.cell? ⟨b, off + j, none⟩ = some (.int .u8 (zs.getD j 0))) := hc
  clear hc
  go_wp2
  go_loopw [4] (fun i wr => ∃ k : Nat, k ≤ n ∧ i = .int .i64 k ∧ (∃ xs, wr.ownsRow w.heap.size 5 1 (.slice (some ⟨w.heap.size, 0, none⟩) n n) n xs ∧ ∀ j, j < k → xs[j]? = some (.int .u8 (zs.getD j 0))) ∧ Below w.heap.size w wr)
    (fun i _ => n - (intOf i).toNat)
  case atStart => exact ⟨0, Nat.zero_le _, rfl, ⟨_, hown, fun j hj => by omega⟩, hb⟩
  case round =>
    obtain ⟨k, hk, rfl, ⟨xs, hown, hxs⟩, hb⟩ := hrel
    by_cases hlt : k < n
    · have hcx : wr.cell? ⟨b, off + k, none⟩ = some (.int .u8 (zs.getD k 0)) := (hb.cell (World.block_lt_of_cell? w _ (Hc.out k hlt))).trans (Hc.out k hlt)
      have R := copy_step hlt hown hxs hb
      have hl : xs.length = n := by have := hown.1; omega
      obtain ⟨old, ho⟩ : ∃ old, wr.cell? ⟨w.heap.size, k, none⟩ = some old := by
        rw [hown.cellAt k (by omega)]; exact ⟨_, List.getElem?_eq_getElem (by omega)⟩
      have hf := hown.frozenAt k
      have HR := R
      have HH : Hid _ := HR
      clear R HR hown hxs
      go_wp2
      go_roundw
      case rel => exact ⟨k + 1, by omega, by go_num, HH.out.1, HH.out.2⟩
      case measure => simp [intOf]; omega
    · have hkn : k = n := by omega
      go_wp2
      go_ret
      subst hkn
      exact ⟨_, _, rfl, copy_end hown hxs, fun h => (by cases h), hb⟩

set_option maxHeartbeats 400000 in
theorem clone_zero (x : Addr) (cap : Nat) (zs : List Int) (w : World) :
    Calls Try.prog 7 #[.slice (some x) 0 cap] w fun e w' => ∃ a c, e = .returned (.slice a 0 c) ∧ Row w' a 0 zs ∧ (a = none → 0 = 0 ∧ c = 0) ∧ Below w.heap.size w w' := by
  have q := q22
  obtain ⟨i0, hi, hz0, hz1, hz2⟩ := info_parts info5
  go_enter Try.func7, Try.ntmps7
  go_wp2_with (at_make; refine wpList_make_full _ rfl _ _ 22 rfl w.heap.size 5 i0 (.int .u8 0) 1 Try.underlying22 hi hz0 hz1 .i64 .i64 _ _ 0 rfl rfl rfl rfl ?_ ?_ ?_ ?_)
  case refine_1 => rw [hz2]; omega
  case refine_2 => unfold maxLen; omega
  case refine_3 => omega
  intro w1 hown hgrow
  have hb : Below w.heap.size w w1 := (Below.refl _ _).grown hgrow (Nat.le_refl _) (by intro k hk; cases hk)
  clear hgrow hi hz0 hz1 hz2 hown
  go_wp2
  refine wp_loop_rounds 1 ?_
  rw [rounds_succ]
  go_wp2
  go_ret
  exact ⟨_, _, rfl, .inl rfl, fun h => (by cases h), hb⟩

/-- 'cloneBytesCodecB1', whatever slice of at most 2^20 bytes. -/
theorem clone_any (a : Option Addr) (n cap : Nat) (zs : List Int) (w : World) (hn : n ≤ 1048576) (h : Row w a n zs) (h0 : a = none → n = 0 ∧ cap = 0) :
    Calls Try.prog 7 #[.slice a n cap] w fun e w' => ∃ a c, e = .returned (.slice a n c) ∧ Row w' a n zs ∧ (a = none → n = 0 ∧ c = 0) ∧ Below w.heap.size w w' := by
  cases a with
  | none =>
    obtain ⟨rfl, rfl⟩ := h0 rfl
    refine (clone_nil w).mono ?_
    rintro e w' ⟨rfl, rfl⟩
    exact ⟨_, _, rfl, .inl rfl, fun _ => ⟨rfl, rfl⟩, Below.refl _ _⟩
  | some x =>
    rcases h with rfl | ⟨b, off, hx, hc⟩
    · exact clone_zero x cap zs w
    · cases hx
      exact clone_pos b off n cap zs w hn hc

set_option maxHeartbeats 400000 in
/-- 'sameBytesCodecB1' of two slices that read alike. -/
theorem same_pos (b off n c b' off' c' : Nat) (zs : List Int) (w : World) (hn : n ≤ 1048576) (h : ∀ j, j < n → w.cell? ⟨b, off + j, none⟩ = some (.int .u8 (zs.getD j 0))) (h' : ∀ j, j < n → w.cell? ⟨b', off' + j, none⟩ = some (.int .u8 (zs.getD j 0))) :
    Calls Try.prog 12 #[.slice (some ⟨b, off, none⟩) n c, .slice (some ⟨b', off', none⟩) n c'] w fun e w' => e = .returned (.bool true) ∧ Below w.heap.size w w' := by
  have H : Hid (∀ j, j < n → w.cell? ⟨b, off + j, none⟩ = some (.int .u8 (zs.getD j 0))) := h
  have H' : Hid (∀ j, j < n → w.cell? ⟨b', off' + j, none⟩ = some (.int .u8 (zs.getD j 0))) := h'
  clear h h'
  go_enter Try.func12, Try.ntmps12
  go_wp2
  go_loopw [5] (fun i wr => ∃ k : Nat, k ≤ n ∧ i = .int .i64 k ∧ Below w.heap.size w wr) (fun i _ => n - (intOf i).toNat)
  case atStart => exact ⟨0, Nat.zero_le _, rfl, Below.refl _ _⟩
  case round =>
    obtain ⟨k, hk, rfl, hb⟩ := hrel
    by_cases hlt : k < n
    · have hcx : wr.cell? ⟨b, off + k, none⟩ = some (.int .u8 (zs.getD k 0)) := (hb.cell (World.block_lt_of_cell? w _ (H.out k hlt))).trans (H.out k hlt)
      have hcy : wr.cell? ⟨b', off' + k, none⟩ = some (.int .u8 (zs.getD k 0)) := (hb.cell (World.block_lt_of_cell? w _ (H'.out k hlt))).trans (H'.out k hlt)
      have hlt' : (k : Int) < (n : Int) := by omega
      go_wp2
      go_quiet (fail)
      go_wp2
      go_roundw
      case rel => exact ⟨k + 1, by omega, by go_num, below_drewN hb _⟩
      case measure => simp [intOf]; omega
    · go_wp2
      go_ret
      exact ⟨rfl, hb⟩

set_option maxHeartbeats 400000 in
theorem same_zero (a a' : Option Addr) (c c' : Nat) (w : World) :
    Calls Try.prog 12 #[.slice a 0 c, .slice a' 0 c'] w fun e w' => e = .returned (.bool true) ∧ Below w.heap.size w w' := by
  go_enter Try.func12, Try.ntmps12
  go_wp2
  refine wp_loop_rounds 1 ?_
  rw [rounds_succ]
  go_wp2
  go_ret
  exact ⟨rfl, Below.refl _ _⟩

theorem same_any (a a' : Option Addr) (n c c' : Nat) (zs : List Int) (w : World) (hn : n ≤ 1048576) (h : Row w a n zs) (h' : Row w a' n zs) :
    Calls Try.prog 12 #[.slice a n c, .slice a' n c'] w fun e w' => e = .returned (.bool true) ∧ Below w.heap.size w w' := by
  rcases h with rfl | ⟨b, off, rfl, hc⟩
  · exact same_zero _ _ _ _ _
  rcases h' with rfl | ⟨b', off', rfl, hc'⟩
  · exact same_zero _ _ _ _ _
  exact same_pos _ _ _ _ _ _ _ zs _ hn hc hc'

/-- The law, where the slice is too long: true at once. -/
theorem law3_long (a : Option Addr) (n cap : Nat) (f : Bool) (w : World) (hn : 1048576 < n) (hm : n ≤ maxLen) :
    Calls Try.prog 3 #[.slice a n cap, .bool f] w fun e w' => e = .returned (.bool true) ∧ Below w.heap.size w w' := by
  unfold maxLen at hm
  go_enter Try.func3, Try.ntmps3
  go_wp2
  go_ret
  exact ⟨rfl, Below.refl _ _⟩

set_option maxHeartbeats 400000 in
theorem law3_short (a : Option Addr) (n cap : Nat) (zs : List Int) (f : Bool) (w : World) (hn : n ≤ 1048576) (h : Row w a n zs) (h0 : a = none → n = 0 ∧ cap = 0) :
    Calls Try.prog 3 #[.slice a n cap, .bool f] w fun e w' => e = .returned (.bool true) ∧ Below w.heap.size w w' := by
  have H0 : Hid (a = none → n = 0 ∧ cap = 0) := h0
  clear h0
  go_enter Try.func3, Try.ntmps3
  go_wp2_with (go_at_call 6; go_in)
  refine (clone_any a n cap zs _ hn h H0.out).mono ?_
  rintro e w1 ⟨a1, c1, rfl, r1, n1, b1⟩
  have N1 : Hid (a1 = none → n = 0 ∧ c1 = 0) := n1
  clear n1 h H0
  go_wp2_with fail
  refine (clone_any a1 n c1 zs _ hn r1 N1.out).mono ?_
  rintro e w2 ⟨a2, c2, rfl, r2, n2, b2⟩
  have B2 : Below w.heap.size w w2 := b1.trans (b2.mono b1.size)
  have r1' : Row w2 a1 n zs := r1.below b2
  clear n2 b1 b2 r1 N1
  cases f
  · go_wp2_with (first | (go_at_call 8; go_in) | (go_at_call 9; go_in) | (go_at_call 10; go_in) | (go_at_call 11; go_in))
    refine (same_any a1 a2 n c1 c2 zs _ hn (r1'.below ((Below.refl _ _).alloc (Nat.le_refl _) _)) (r2.below ((Below.refl _ _).alloc (Nat.le_refl _) _))).mono ?_
    rintro e w3 ⟨rfl, b3⟩
    have B3 : Below w.heap.size w w3 := (B2.alloc B2.size _).trans (b3.mono (by simp; have := B2.size; omega))
    clear b3
    go_wp2
    go_ret
    exact ⟨rfl, B3⟩
  · go_wp2_with (first | (go_at_call 8; go_in) | (go_at_call 9; go_in) | (go_at_call 10; go_in) | (go_at_call 11; go_in))
    go_ret
    exact ⟨rfl, B2.alloc B2.size _⟩

/-- The second law, where the slice is too long: true at once. -/
theorem law4_long (a : Option Addr) (n cap : Nat) (f : Bool) (w : World) (hn : 1048576 < n) (hm : n ≤ maxLen) :
    Calls Try.prog 4 #[.slice a n cap, .bool f] w fun e w' => e = .returned (.bool true) ∧ Below w.heap.size w w' := by
  unfold maxLen at hm
  go_enter Try.func4, Try.ntmps4
  go_wp2
  go_ret
  exact ⟨rfl, Below.refl _ _⟩

set_option maxHeartbeats 400000 in
theorem law4_short (a : Option Addr) (n cap : Nat) (zs : List Int) (f : Bool) (w : World) (hn : n ≤ 1048576) (h : Row w a n zs) (h0 : a = none → n = 0 ∧ cap = 0) :
    Calls Try.prog 4 #[.slice a n cap, .bool f] w fun e w' => e = .returned (.bool true) ∧ Below w.heap.size w w' := by
  have H0 : Hid (a = none → n = 0 ∧ cap = 0) := h0
  clear h0
  go_enter Try.func4, Try.ntmps4
  go_wp2_with (go_at_call 13; go_in)
  refine (clone_any a n cap zs _ hn h H0.out).mono ?_
  rintro e w1 ⟨a1, c1, rfl, r1, n1, b1⟩
  have N1 : Hid (a1 = none → n = 0 ∧ c1 = 0) := n1
  clear n1 h H0
  go_wp2_with fail
  refine (clone_any a1 n c1 zs _ hn r1 N1.out).mono ?_
  rintro e w2 ⟨a2, c2, rfl, r2, n2, b2⟩
  have B2 : Below w.heap.size w w2 := b1.trans (b2.mono b1.size)
  have r1' : Row w2 a1 n zs := r1.below b2
  clear n2 b1 b2 r1 N1
  cases f
  all_goals
    go_wp2_with (first | (go_at_call 8; go_in) | (go_at_call 9; go_in) | (go_at_call 10; go_in) | (go_at_call 11; go_in))
    refine (same_any a1 a2 n c1 c2 zs _ hn (r1'.below ((Below.refl _ _).alloc (Nat.le_refl _) _)) (r2.below ((Below.refl _ _).alloc (Nat.le_refl _) _))).mono ?_
    rintro e w3 ⟨rfl, b3⟩
    have B3 : Below w.heap.size w w3 := (B2.alloc B2.size _).trans (b3.mono (by simp; have := B2.size; omega))
    clear b3
    go_wp2
    go_ret
    exact ⟨rfl, B3⟩

/-- The third law, where the slice is too long: true at once. -/
theorem law5_long (a : Option Addr) (n cap : Nat) (w : World) (hn : 1048576 < n) (hm : n ≤ maxLen) :
    Calls Try.prog 5 #[.slice a n cap] w fun e w' => e = .returned (.bool true) ∧ Below w.heap.size w w' := by
  unfold maxLen at hm
  go_enter Try.func5, Try.ntmps5
  go_wp2
  go_ret
  exact ⟨rfl, Below.refl _ _⟩

set_option maxHeartbeats 400000 in
theorem law5_short (a : Option Addr) (n cap : Nat) (zs : List Int) (w : World) (hn : n ≤ 1048576) (h : Row w a n zs) (h0 : a = none → n = 0 ∧ cap = 0) :
    Calls Try.prog 5 #[.slice a n cap] w fun e w' => e = .returned (.bool true) ∧ Below w.heap.size w w' := by
  have H0 : Hid (a = none → n = 0 ∧ cap = 0) := h0
  clear h0
  go_enter Try.func5, Try.ntmps5
  go_wp2_with (go_at_call 14; go_in)
  refine (clone_any a n cap zs _ hn h H0.out).mono ?_
  rintro e w1 ⟨a1, c1, rfl, r1, n1, b1⟩
  have N1 : Hid (a1 = none → n = 0 ∧ c1 = 0) := n1
  clear n1 h H0
  go_wp2_with fail
  refine (clone_any a1 n c1 zs _ hn r1 N1.out).mono ?_
  rintro e w2 ⟨a2, c2, rfl, r2, n2, b2⟩
  have B2 : Below w.heap.size w w2 := b1.trans (b2.mono b1.size)
  have r1' : Row w2 a1 n zs := r1.below b2
  clear n2 b1 b2 r1 N1
  go_wp2_with (first | (go_at_call 8; go_in) | (go_at_call 9; go_in) | (go_at_call 10; go_in) | (go_at_call 11; go_in))
  have b0 : ∀ o o' : Obj, Below w2.heap.size w2 ((w2.alloc o).alloc o') := fun o o' => ((Below.refl _ _).alloc (Nat.le_refl _) _).alloc (by simp) _
  refine (same_any a1 a2 n c1 c2 zs _ hn (r1'.below (b0 _ _)) (r2.below (b0 _ _))).mono ?_
  rintro e w3 ⟨rfl, b3⟩
  have B3 : Below w.heap.size w w3 := (B2.trans ((b0 _ _).mono B2.size)).trans (b3.mono (by simp; have := B2.size; omega))
  clear b3 b0
  go_wp2
  go_ret
  exact ⟨rfl, B3⟩

/-- WHAT THE WALK IS TOLD OF A SLICE OF INTEGERS THAT CAME IN: it is nil; or it leads to a row of 'cap' cells, the numbers 'zs' (the first 'len' are its elements, the rest its spare room), each fitting its kind. -/
def IsRow (k : IntKind) (w : World) (a : Option Addr) (len cap : Nat) (zs : List Int) : Prop :=
  (a = none ∧ len = 0 ∧ cap = 0 ∧ zs = []) ∨
  ∃ x, a = some x ∧ len ≤ cap ∧ cap ≤ maxLen ∧ zs.length = cap ∧ (∀ i, i < zs.length → w.cell? (x.add i) = some (.int k (zs.getD i 0))) ∧ ∀ n ∈ zs, (Lit.int k n).wf = true

theorem IsRow.row {w : World} {a : Option Addr} {len cap : Nat} {zs : List Int} (h : IsRow .u8 w a len cap zs) : Row w a len zs ∧ (a = none → len = 0 ∧ cap = 0) ∧ len ≤ maxLen := by
  rcases h with ⟨rfl, rfl, rfl, rfl⟩ | ⟨x, rfl, hl, hm, hz, hc, _⟩
  · exact ⟨.inl rfl, fun _ => ⟨rfl, rfl⟩, Nat.zero_le _⟩
  · refine ⟨?_, fun h => (by cases h), Nat.le_trans hl hm⟩
    by_cases h0 : len = 0
    · exact .inl h0
    · obtain ⟨b, off, rfl, hc'⟩ := ints_at hc (by omega)
      exact .inr ⟨b, off, rfl, fun j hj => hc' j (by omega)⟩

theorem law3 (a : Option Addr) (n cap : Nat) (zs : List Int) (f : Bool) (w : World) (h : IsRow .u8 w a n cap zs) :
    Calls Try.prog 3 #[.slice a n cap, .bool f] w fun e w' => e = .returned (.bool true) ∧ Below w.heap.size w w' := by
  obtain ⟨r, r0, hm⟩ := h.row
  by_cases hn : n ≤ 1048576
  · exact law3_short a n cap zs f w hn r r0
  · exact law3_long a n cap f w (by omega) hm

theorem law4 (a : Option Addr) (n cap : Nat) (zs : List Int) (f : Bool) (w : World) (h : IsRow .u8 w a n cap zs) :
    Calls Try.prog 4 #[.slice a n cap, .bool f] w fun e w' => e = .returned (.bool true) ∧ Below w.heap.size w w' := by
  obtain ⟨r, r0, hm⟩ := h.row
  by_cases hn : n ≤ 1048576
  · exact law4_short a n cap zs f w hn r r0
  · exact law4_long a n cap f w (by omega) hm

theorem law5 (a : Option Addr) (n cap : Nat) (zs : List Int) (w : World) (h : IsRow .u8 w a n cap zs) :
    Calls Try.prog 5 #[.slice a n cap] w fun e w' => e = .returned (.bool true) ∧ Below w.heap.size w w' := by
  obtain ⟨r, r0, hm⟩ := h.row
  by_cases hn : n ≤ 1048576
  · exact law5_short a n cap zs w hn r r0
  · exact law5_long a n cap w (by omega) hm
end Go.Proofs.Qxb6613853a
