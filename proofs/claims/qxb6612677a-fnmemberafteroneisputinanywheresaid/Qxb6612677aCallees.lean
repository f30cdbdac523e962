import Derived.Test.Qxb6612677aParts
import Derived.ProofKit
import Derived.OpenShut
import Derived.WalkSpells
import Derived.WalkLawsBesides
import Derived.Deep.QuietTactic
import Derived.BigQuiet
import Derived.Deep.AppendLies
namespace Go.Proofs.Qxb6612677a
open Go.RowKit

theorem info47 : (Try.prog.info? 47).map (fun i => (i.zero, i.size, i.bytes)) = some (some (.agg #[.string ⟨#[]⟩, .int .i64 0, .int .i64 0]), 3, 32) := by kernel_rfl

theorem own_far {w : World} {base n cap : Nat} {ao : Option Addr} {xs : List Value} (h : w.ownsRow base 47 3 (.slice ao n cap) n xs) (k : Nat) (hk : w.heap.size ≤ k) : some k ≠ (Value.slice ao n cap).ownBlock := by
  intro e
  have := (h.lt k e.symm).2
  omega

set_option maxHeartbeats 1000000 in
theorem f10_any (ao : Option Addr) (n cap : Nat) (le : Int) (nl ind un key : ByteArray) (s e : Int) (base : Nat) (xs : List Value) (w : World) (hown : w.ownsRow base 47 3 (.slice ao n cap) n xs) (hbase : base ≤ w.heap.size) (hn : n ≤ 1048576) :
    Calls Try.prog 10 #[.agg #[.slice ao n cap, .int .i64 le, .string nl, .string ind, .string un], .string key, .int .i64 s, .int .i64 e] w fun r w' =>
      ∃ g c, r = .returned (.agg #[.slice (some ⟨g, 0, none⟩) (n + 1) c, .int .i64 le, .string nl, .string ind, .string un]) ∧
        w'.ownsRow base 47 3 (.slice (some ⟨g, 0, none⟩) (n + 1) c) (n + 1) (xs ++ [.string key, .int .i64 s, .int .i64 e]) ∧ Below base w w' := by
  obtain ⟨i0, hi, hz0, hz1, hz2⟩ := info_parts info47
  have hfar := own_far hown
  go_enter Try.func10, Try.ntmps10
  go_wp2_with (at_builtin; refine wpList_append_lies _ rfl _ _ 26 rfl base 47 i0 _ 3 32 Try.underlying26 hi hz0 hz1 hz2 rfl (by omega) _ n xs rfl (((hown.alloc _).alloc _).alloc _) ⟨w.heap.size + 1 + 1, 0, none⟩ 1 1 [.string key, .int .i64 s, .int .i64 e] rfl rfl ?_ ?_ (by omega) ?_ ?_ ?_ (w.heap.size + 1 + 1 + 1) ?_ ?_)
  case refine_1 => exact World.news_of_block (cs := #[.string key, .int .i64 s, .int .i64 e]) (t := 47) (fr := (0, 0)) (by simpa using heap_alloc_new ((w.alloc _).alloc _) (.cells #[.string key, .int .i64 s, .int .i64 e] 47))
  case refine_2 => intro u hu; simp at hu; rcases hu with rfl | rfl | rfl <;> rfl
  case refine_3 => unfold maxLen; omega
  case refine_4 => omega
  case refine_5 => simp; omega
  case refine_6 => simp
  intro g c w1 hown1 hgrow hat hlt
  have B1 : Below base w w1 := ((((Below.refl base w).alloc hbase _).alloc (by simp; omega) _).alloc (by simp; omega) _).grown hgrow (by simp; omega) (fun k hk => (hown.lt k hk).1)
  have hz : w.heap.size + 3 ≤ w1.heap.size := by have := hgrow.size; simp at this; omega
  have c0 := hgrow.cell_far ⟨w.heap.size, 0, none⟩ (by simp <;> omega) (hfar _ (Nat.le_refl _))
  have c1 := hgrow.cell_far ⟨w.heap.size, 1, none⟩ (by simp <;> omega) (hfar _ (Nat.le_refl _))
  have c2 := hgrow.cell_far ⟨w.heap.size, 2, none⟩ (by simp <;> omega) (hfar _ (Nat.le_refl _))
  have c3 := hgrow.cell_far ⟨w.heap.size, 3, none⟩ (by simp <;> omega) (hfar _ (Nat.le_refl _))
  have c4 := hgrow.cell_far ⟨w.heap.size, 4, none⟩ (by simp <;> omega) (hfar _ (Nat.le_refl _))
  have d0 := hgrow.cell_far ⟨w.heap.size + 1, 0, none⟩ (by simp <;> omega) (hfar _ (by simp))
  have d1 := hgrow.cell_far ⟨w.heap.size + 1, 1, none⟩ (by simp <;> omega) (hfar _ (by simp))
  have d2 := hgrow.cell_far ⟨w.heap.size + 1, 2, none⟩ (by simp <;> omega) (hfar _ (by simp))
  have d3 := hgrow.cell_far ⟨w.heap.size + 1, 3, none⟩ (by simp <;> omega) (hfar _ (by simp))
  have d4 := hgrow.cell_far ⟨w.heap.size + 1, 4, none⟩ (by simp <;> omega) (hfar _ (by simp))
  have f0 := hgrow.frozen_far ⟨w.heap.size, 0, none⟩ (by simp <;> omega) (hfar _ (Nat.le_refl _))
  have e0 := hgrow.frozen_far ⟨w.heap.size + 1, 0, none⟩ (by simp <;> omega) (hfar _ (by simp))
  have e1 := hgrow.frozen_far ⟨w.heap.size + 1, 1, none⟩ (by simp <;> omega) (hfar _ (by simp))
  have e2 := hgrow.frozen_far ⟨w.heap.size + 1, 2, none⟩ (by simp <;> omega) (hfar _ (by simp))
  have e3 := hgrow.frozen_far ⟨w.heap.size + 1, 3, none⟩ (by simp <;> omega) (hfar _ (by simp))
  have e4 := hgrow.frozen_far ⟨w.heap.size + 1, 4, none⟩ (by simp <;> omega) (hfar _ (by simp))
  simp [go_sem] at c0 c1 c2 c3 c4 d0 d1 d2 d3 d4 f0 e0 e1 e2 e3 e4
  have hg : g ≠ w.heap.size ∧ g ≠ w.heap.size + 1 := by
    rcases hat with h | h
    · have := (hown.lt g h).2; omega
    · omega
  have hg0 : (Value.slice (some ⟨g, 0, none⟩) (n + 1) c).ownBlock ≠ some w.heap.size := by simp [Value.ownBlock, hg.1]
  have hg1 : (Value.slice (some ⟨g, 0, none⟩) (n + 1) c).ownBlock ≠ some (w.heap.size + 1) := by simp [Value.ownBlock, hg.2]
  have R := ownsRow_setCell_other (ownsRow_setCell_other (ownsRow_setCell_other (ownsRow_setCell_other (ownsRow_setCell_other (ownsRow_setCell_other hown1 (a := ⟨w.heap.size, 0, none⟩) hg0 (Value.slice (some ⟨g, 0, none⟩) (n + 1) c))
    (a := ⟨w.heap.size + 1, 0, none⟩) hg1 (Value.slice (some ⟨g, 0, none⟩) (n + 1) c)) (a := ⟨w.heap.size + 1, 1, none⟩) hg1 (.int .i64 le)) (a := ⟨w.heap.size + 1, 2, none⟩) hg1 (.string nl)) (a := ⟨w.heap.size + 1, 3, none⟩) hg1 (.string ind)) (a := ⟨w.heap.size + 1, 4, none⟩) hg1 (.string un)
  have BR := (((((B1.setCell (p := ⟨w.heap.size, 0, none⟩) hbase (Value.slice (some ⟨g, 0, none⟩) (n + 1) c)).setCell (p := ⟨w.heap.size + 1, 0, none⟩) (Nat.le_succ_of_le hbase) (Value.slice (some ⟨g, 0, none⟩) (n + 1) c)).setCell (p := ⟨w.heap.size + 1, 1, none⟩) (Nat.le_succ_of_le hbase) (.int .i64 le)).setCell
    (p := ⟨w.heap.size + 1, 2, none⟩) (Nat.le_succ_of_le hbase) (.string nl)).setCell (p := ⟨w.heap.size + 1, 3, none⟩) (Nat.le_succ_of_le hbase) (.string ind)).setCell (p := ⟨w.heap.size + 1, 4, none⟩) (Nat.le_succ_of_le hbase) (.string un)
  clear hfar hat hgrow hi hz0 hz1 hz2 hown1 B1 hg hg0 hg1
  go_wp2
  exact bodyPost_ret (v := .agg #[.slice (some ⟨g, 0, none⟩) (n + 1) c, .int .i64 le, .string nl, .string ind, .string un]) (by simp [results, Try.results10, go_sem, d0, d1, d2, d3, d4]) rfl ⟨g, c, rfl, R, BR⟩
set_option maxHeartbeats 400000 in
/-- The closure of 'member'. -/
theorem f24_any (k key : ByteArray) (s e : Int) (p : Nat) (w : World) (hk : w.cell? ⟨p, 0, none⟩ = some (.string key)) :
    Calls Try.prog 24 #[.agg #[.string k, .int .i64 s, .int .i64 e], .pointer (some ⟨p, 0, none⟩)] w fun r w' => r = .returned (.bool (k.toList == key.toList)) ∧ Below w.heap.size w w' := by
  have hp : p < w.heap.size := World.block_lt_of_cell? w _ hk
  go_enter Try.func24, Try.ntmps24
  go_wp2
  go_ret
  exact ⟨rfl, (Below.refl _ _).alloc (Nat.le_refl _) _⟩

set_option maxHeartbeats 400000 in
/-- slices.IndexFunc at the closure of 'member': the first member with the key. -/
theorem f23_pos (g off n c p : Nat) (ms : List M) (key : ByteArray) (w : World) (hl : ms.length = n) (hn : n ≤ 1048576) (hr : Rows3 w g off ms) (hk : w.cell? ⟨p, 0, none⟩ = some (.string key)) :
    Calls Try.prog 23 #[.slice (some ⟨g, off, none⟩) n c, .func (.func 24) #[] #[.pointer (some ⟨p, 0, none⟩)]] w fun r w' =>
      ∃ i : Int, r = .returned (.int .i64 i) ∧ ((i = -1 ∧ ∀ j, j < n → hit key (ms.getD j m0) = false) ∨ ∃ k : Nat, i = k ∧ k < n ∧ hit key (ms.getD k m0) = true ∧ ∀ j, j < k → hit key (ms.getD j m0) = false) ∧ Below w.heap.size w w' := by
  have HL : Hid (ms.length = n) := hl
  clear hl
  have hp : p < w.heap.size := World.block_lt_of_cell? w _ hk
  go_enter Try.func23, Try.ntmps23
  go_wp2
  go_loopw [8] (fun i wr => ∃ k : Nat, k ≤ n ∧ i = .int .i64 k ∧ (∀ j, j < k → hit key (ms.getD j m0) = false) ∧ Below w.heap.size w wr) (fun i _ => n - (intOf i).toNat)
  case atStart => exact ⟨0, Nat.zero_le _, rfl, fun j hj => by omega, Below.refl _ _⟩
  case round =>
    obtain ⟨k, hkn, rfl, hno, hb⟩ := hrel
    have HN : Hid (∀ j, j < k → hit key (ms.getD j m0) = false) := hno
    clear hno
    by_cases hlt : k < n
    · obtain ⟨x0, x1, x2⟩ := hr.below hb k (by have := HL.out; omega)
      have hk' : wr.cell? ⟨p, 0, none⟩ = some (.string key) := (hb.cell (by exact hp)).trans hk
      obtain ⟨m, hm⟩ : ∃ m, m = ms.getD k m0 := ⟨_, rfl⟩
      rw [← hm] at x0 x1 x2
      have HM : Hid (m = ms.getD k m0) := hm
      clear hm
      obtain ⟨mk, ms', me⟩ := m
      dsimp only at x0 x1 x2
      go_wp2_with fail
      refine (f24_any mk key ms' me p wr hk').mono ?_
      rintro e w1 ⟨rfl, hb1⟩
      have hb2 : Below w.heap.size w w1 := hb.trans (hb1.mono hb.size)
      have hh : hit key (ms.getD k m0) = (mk.toList == key.toList) := by rw [← HM.out]; rfl
      have HH : Hid (hit key (ms.getD k m0) = (mk.toList == key.toList)) := hh
      clear hh x0 x1 x2 hk' hb1 hr hk
      cases hx : (mk.toList == key.toList)
      · go_wp2
        go_roundw
        case rel => exact ⟨k + 1, by omega, by go_num, fun j hj => by
          by_cases e : j = k
          · rw [e, HH.out, hx]
          · exact HN.out j (by omega), hb2⟩
        case measure => simp [intOf]; omega
      · go_wp2
        go_ret
        exact ⟨k, rfl, .inr ⟨k, rfl, hlt, by rw [HH.out, hx], HN.out⟩, hb2⟩
    · go_wp2
      go_ret
      exact ⟨-1, rfl, .inl ⟨rfl, fun j hj => HN.out j (by omega)⟩, hb⟩

set_option maxHeartbeats 400000 in
theorem f23_nil (p : Nat) (w : World) :
    Calls Try.prog 23 #[.slice none 0 0, .func (.func 24) #[] #[.pointer (some ⟨p, 0, none⟩)]] w fun r w' => r = .returned (.int .i64 (-1)) ∧ Below w.heap.size w w' := by
  go_enter Try.func23, Try.ntmps23
  go_wp2
  refine wp_loop_rounds 1 ?_
  rw [rounds_succ]
  go_wp2
  go_ret
  exact ⟨rfl, Below.refl _ _⟩

/-- What 'member' hands back. -/
def mkey (o : Option M) : ByteArray := (o.getD m0).1
def mst (o : Option M) : Int := (o.getD m0).2.1
def men (o : Option M) : Int := (o.getD m0).2.2

theorem find_none {ms : List M} {key : ByteArray} (h : ∀ j, j < ms.length → hit key (ms.getD j m0) = false) : ms.find? (hit key) = none := by
  rw [List.find?_eq_none]
  intro x hx
  obtain ⟨j, hj, rfl⟩ := List.getElem_of_mem hx
  have := h j hj
  rw [List.getD_eq_getElem?_getD, List.getElem?_eq_getElem hj] at this
  simpa using this

theorem find_some {ms : List M} {key : ByteArray} {k : Nat} (hk : k < ms.length) (h1 : hit key (ms.getD k m0) = true) (h : ∀ j, j < k → hit key (ms.getD j m0) = false) : ms.find? (hit key) = some (ms.getD k m0) := by
  induction ms generalizing k with
  | nil => simp at hk
  | cons m ms ih =>
    cases k with
    | zero => simp at h1; simp [h1]
    | succ k =>
      have h0 := h 0 (by omega)
      simp at h0
      rw [List.find?_cons, h0]
      simpa using ih (k := k) (by simpa using hk) (by simpa using h1) (fun j hj => by simpa using h (j + 1) (by omega))

set_option maxHeartbeats 400000 in
theorem f21_pos (g n c : Nat) (le : Int) (nl ind un key : ByteArray) (ms : List M) (w : World) (hl : ms.length = n) (hn : n ≤ 1048576) (hr : Rows3 w g 0 ms) :
    Calls Try.prog 21 #[.agg #[.slice (some ⟨g, 0, none⟩) n c, .int .i64 le, .string nl, .string ind, .string un], .string key] w fun r w' =>
      r = .returned (.tuple #[.agg #[.string (mkey (ms.find? (hit key))), .int .i64 (mst (ms.find? (hit key))), .int .i64 (men (ms.find? (hit key)))], .bool (ms.find? (hit key)).isSome]) ∧ Below w.heap.size w w' := by
  have HL : Hid (ms.length = n) := hl
  clear hl
  go_enter Try.func21, Try.ntmps21
  go_wp2_with fail
  have b0 : ∀ o o' o'' : Obj, Below w.heap.size w (((w.alloc o).alloc o').alloc o'') := fun o o' o'' => (((Below.refl _ _).alloc (Nat.le_refl _) _).alloc (by simp) _).alloc (by simp <;> omega) _
  refine (f23_pos g 0 n c (w.heap.size + 1) ms key _ HL.out hn (hr.below (b0 _ _ _)) (by simp [go_sem])).mono ?_
  rintro e w1 ⟨i, rfl, hcase, b1⟩
  have hr1 := (hr.below (b0 _ _ _)).below b1
  have B1 : Below w.heap.size w w1 := (b0 _ _ _).trans (b1.mono (by simp <;> omega))
  have c0 := b1.cell (p := ⟨w.heap.size, 0, none⟩) (by simp <;> omega)
  have d0 := b1.cell (p := ⟨w.heap.size + 1 + 1, 0, none⟩) (by simp)
  have d1 := b1.cell (p := ⟨w.heap.size + 1 + 1, 1, none⟩) (by simp)
  have d2 := b1.cell (p := ⟨w.heap.size + 1 + 1, 2, none⟩) (by simp)
  have e0 := b1.frozen (p := ⟨w.heap.size + 1 + 1, 0, none⟩) (by simp)
  have e1 := b1.frozen (p := ⟨w.heap.size + 1 + 1, 1, none⟩) (by simp)
  have e2 := b1.frozen (p := ⟨w.heap.size + 1 + 1, 2, none⟩) (by simp)
  simp [go_sem] at c0 d0 d1 d2 e0 e1 e2
  have BR : ∀ x y z, Below w.heap.size w (((w1.setCell ⟨w.heap.size + 1 + 1, 0, none⟩ x).setCell ⟨w.heap.size + 1 + 1, 1, none⟩ y).setCell ⟨w.heap.size + 1 + 1, 2, none⟩ z) := fun x y z =>
    ((B1.setCell (p := ⟨w.heap.size + 1 + 1, 0, none⟩) (by simp <;> omega) x).setCell (p := ⟨w.heap.size + 1 + 1, 1, none⟩) (by simp <;> omega) y).setCell (p := ⟨w.heap.size + 1 + 1, 2, none⟩) (by simp <;> omega) z
  clear b0 b1 hr B1
  rcases hcase with ⟨rfl, hno⟩ | ⟨k, rfl, hkn, hk1, hno⟩
  · have hf : ms.find? (hit key) = none := find_none (by rw [HL.out]; exact hno)
    have HF : Hid (ms.find? (hit key) = none) := hf
    clear hf hno hr1
    go_wp2
    refine bodyPost_ret (v := .tuple #[.agg #[.string ⟨#[]⟩, .int .i64 0, .int .i64 0], .bool false]) (by simp [results, Try.results21, go_sem, d0, d1, d2]) rfl ⟨?_, BR _ _ _⟩
    rw [HF.out]; rfl
  · have hf : ms.find? (hit key) = some (ms.getD k m0) := find_some (by rw [HL.out]; exact hkn) hk1 hno
    obtain ⟨x0, x1, x2⟩ := hr1 k (by have := HL.out; omega)
    obtain ⟨m, hm⟩ : ∃ m, m = ms.getD k m0 := ⟨_, rfl⟩
    rw [← hm] at x0 x1 x2 hf
    have HF : Hid (ms.find? (hit key) = some m) := hf
    clear hf hno hr1 hk1 hm
    obtain ⟨mk, ms', me⟩ := m
    dsimp only at x0 x1 x2
    simp only [Nat.zero_add] at x0 x1 x2
    go_wp2
    refine bodyPost_ret (v := .tuple #[.agg #[.string mk, .int .i64 ms', .int .i64 me], .bool true]) (by simp [results, Try.results21, go_sem, d0, d1, d2]) rfl ⟨?_, BR _ _ _⟩
    rw [HF.out]; rfl

set_option maxHeartbeats 400000 in
theorem f21_nil (le : Int) (nl ind un key : ByteArray) (w : World) :
    Calls Try.prog 21 #[.agg #[.slice none 0 0, .int .i64 le, .string nl, .string ind, .string un], .string key] w fun r w' =>
      r = .returned (.tuple #[.agg #[.string (mkey none), .int .i64 (mst none), .int .i64 (men none)], .bool false]) ∧ Below w.heap.size w w' := by
  go_enter Try.func21, Try.ntmps21
  go_wp2_with fail
  have b0 : ∀ o o' o'' : Obj, Below w.heap.size w (((w.alloc o).alloc o').alloc o'') := fun o o' o'' => (((Below.refl _ _).alloc (Nat.le_refl _) _).alloc (by simp) _).alloc (by simp <;> omega) _
  refine (f23_nil (w.heap.size + 1) _).mono ?_
  rintro e w1 ⟨rfl, b1⟩
  have B1 : Below w.heap.size w w1 := (b0 _ _ _).trans (b1.mono (by simp <;> omega))
  have d0 := b1.cell (p := ⟨w.heap.size + 1 + 1, 0, none⟩) (by simp)
  have d1 := b1.cell (p := ⟨w.heap.size + 1 + 1, 1, none⟩) (by simp)
  have d2 := b1.cell (p := ⟨w.heap.size + 1 + 1, 2, none⟩) (by simp)
  have e0 := b1.frozen (p := ⟨w.heap.size + 1 + 1, 0, none⟩) (by simp)
  have e1 := b1.frozen (p := ⟨w.heap.size + 1 + 1, 1, none⟩) (by simp)
  have e2 := b1.frozen (p := ⟨w.heap.size + 1 + 1, 2, none⟩) (by simp)
  simp [go_sem] at d0 d1 d2 e0 e1 e2
  have BR : ∀ x y z, Below w.heap.size w (((w1.setCell ⟨w.heap.size + 1 + 1, 0, none⟩ x).setCell ⟨w.heap.size + 1 + 1, 1, none⟩ y).setCell ⟨w.heap.size + 1 + 1, 2, none⟩ z) := fun x y z =>
    ((B1.setCell (p := ⟨w.heap.size + 1 + 1, 0, none⟩) (by simp <;> omega) x).setCell (p := ⟨w.heap.size + 1 + 1, 1, none⟩) (by simp <;> omega) y).setCell (p := ⟨w.heap.size + 1 + 1, 2, none⟩) (by simp <;> omega) z
  clear b0 b1 B1
  go_wp2
  exact bodyPost_ret (v := .tuple #[.agg #[.string ⟨#[]⟩, .int .i64 0, .int .i64 0], .bool false]) (by simp [results, Try.results21, go_sem, d0, d1, d2]) rfl ⟨rfl, BR _ _ _⟩

/-- (jsonObject).member over what the call owns. -/
theorem f21_any (ao : Option Addr) (n c base : Nat) (le : Int) (nl ind un key : ByteArray) (ms : List M) (w : World) (hn : n ≤ 1048576) (hown : w.ownsRow base 47 3 (.slice ao n c) n (mcells ms)) :
    Calls Try.prog 21 #[.agg #[.slice ao n c, .int .i64 le, .string nl, .string ind, .string un], .string key] w fun r w' =>
      r = .returned (.tuple #[.agg #[.string (mkey (ms.find? (hit key))), .int .i64 (mst (ms.find? (hit key))), .int .i64 (men (ms.find? (hit key)))], .bool (ms.find? (hit key)).isSome]) ∧ Below w.heap.size w w' := by
  have hl : ms.length = n := by have := hown.1; rw [mcells_length] at this; omega
  rcases hown.2 with ⟨h, hn0⟩ | ⟨g, cap, cur, h, _⟩
  · simp only [Value.slice.injEq] at h
    obtain ⟨rfl, rfl, rfl⟩ := h
    have : ms = [] := List.length_eq_zero_iff.1 hl
    subst this
    exact f21_nil le nl ind un key w
  · simp only [Value.slice.injEq] at h
    obtain ⟨rfl, _, rfl⟩ := h
    exact f21_pos g n c le nl ind un key ms w hl hn (rows3_of_own hown)

set_option maxHeartbeats 400000 in
/-- ZZmember over what the call owns. -/
theorem f11_any (ao : Option Addr) (n c base : Nat) (le : Int) (nl ind un key : ByteArray) (ms : List M) (w : World) (hn : n ≤ 1048576) (hown : w.ownsRow base 47 3 (.slice ao n c) n (mcells ms)) :
    Calls Try.prog 11 #[.agg #[.slice ao n c, .int .i64 le, .string nl, .string ind, .string un], .string key] w fun r w' =>
      r = .returned (.tuple #[.string (mkey (ms.find? (hit key))), .int .i64 (mst (ms.find? (hit key))), .int .i64 (men (ms.find? (hit key))), .bool (ms.find? (hit key)).isSome]) ∧ Below w.heap.size w w' := by
  go_enter Try.func11, Try.ntmps11
  go_wp2_with fail
  refine (f21_any ao n c base le nl ind un key ms _ hn (hown.alloc _)).mono ?_
  rintro e w1 ⟨rfl, b1⟩
  have B1 : Below w.heap.size w w1 := ((Below.refl _ _).alloc (Nat.le_refl _) _).trans (b1.mono (by simp))
  clear b1 hown
  generalize h0 : mkey (ms.find? (hit key)) = x0
  generalize h1 : mst (ms.find? (hit key)) = x1
  generalize h2 : men (ms.find? (hit key)) = x2
  generalize h3 : (ms.find? (hit key)).isSome = x3
  have H0 : Hid (mkey (ms.find? (hit key)) = x0) := h0
  have H1 : Hid (mst (ms.find? (hit key)) = x1) := h1
  have H2 : Hid (men (ms.find? (hit key)) = x2) := h2
  have H3 : Hid ((ms.find? (hit key)).isSome = x3) := h3
  clear h0 h1 h2 h3
  go_wp2
  go_quiet (fail)
  go_wp2
  refine bodyPost_ret (v := .tuple #[.string x0, .int .i64 x1, .int .i64 x2, .bool x3]) (by simp [results, Try.results11, go_sem]) rfl ⟨by rw [H0.out, H1.out, H2.out, H3.out], ?_⟩
  exact below_drewN (B1.alloc B1.size _) _

/-- zzAddText. -/
theorem f20_any (z : Int) (s : ByteArray) (w : World) (hz0 : 0 ≤ z) (hz : z ≤ 1048576) (hs : s.size ≤ maxLen) :
    Calls Try.prog 20 #[.int .i64 z, .string s] w fun r w' => ∃ z' : Int, r = .returned (.int .i64 z') ∧ 0 ≤ z' ∧ z' ≤ 2097152 ∧ w' = w := by
  unfold maxLen at hs
  go_enter Try.func20, Try.ntmps20
  go_wp2
  · go_ret
    exact ⟨1048577, rfl, by omega, by omega, rfl⟩
  · go_ret
    exact ⟨_, rfl, by omega, by omega, rfl⟩
end Go.Proofs.Qxb6612677a
