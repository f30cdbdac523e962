import Derived.Test.Qxb6612815aRows
import Derived.Test.Qxb6612815aLocks
import Derived.Conc.MuLone
import Derived.WalkKit
import Derived.ProofKit
import Derived.OpenShut
import Derived.Below
import Derived.WalkSpells
import Derived.WalkLawsBesides
import Derived.Laws.CopyOwn
import Derived.Lib.SliceRun
import Derived.Deep.QuietTactic
import Derived.BigQuiet
namespace Go.Proofs.Qxb6612815a
open Go.RowKit Go.MuLone

/-- The collector at block B: its lock's word, its generation, its answers, what is taken, whether it waits. -/
structure Col (w : World) (B : Nat) (st gen : Int) (g m c : Nat) (tk : Int) (wt : Bool) : Prop where
  c1 : w.cell? ⟨B, 1, none⟩ = some (.int .i32 st)
  c3 : w.cell? ⟨B, 3, none⟩ = some (.int .u64 gen)
  c4 : w.cell? ⟨B, 4, none⟩ = some (.slice (some ⟨g, 0, none⟩) m c)
  c5 : w.cell? ⟨B, 5, none⟩ = some (.int .i64 tk)
  c6 : w.cell? ⟨B, 6, none⟩ = some (.bool wt)
  f : ∀ j, w.frozen? ⟨B, j, none⟩ = false

/-- The answers' cells are there and may be written. -/
def Own (w : World) (g m : Nat) : Prop := ∀ j, j < m * 26 → (w.cell? ⟨g, 0 + j, none⟩).isSome = true ∧ w.frozen? ⟨g, 0 + j, none⟩ = false

/-- An answer's zero cells. -/
def zero49 : Array Value := #[.int .i64 0, .int .u8 0, .slice none 0 0, .int .u64 0, .int .u64 0, .int .u64 0, .int .u64 0, .slice none 0 0, .bool false, .slice none 0 0, .int .u64 0, .int .u64 0, .int .u64 0, .int .u64 0, .slice none 0 0, .bool false, .int .u64 0, .int .u64 0, .int .u64 0, .int .u64 0, .slice none 0 0, .int .u64 0, .int .u64 0, .pointer none, .slice none 0 0, .nilIface]
theorem zeroValue49 (w : World) : (zeroValue 49).run Try.prog w = .ok (.agg zero49) w := by kernel_rfl
theorem info49 : (Try.prog.info? 49).map (fun i => (i.zero, i.size, i.bytes)) = some (some (.agg zero49), 26, 312) := by kernel_rfl

theorem zeroCells_one (n : Nat) : ∀ v ∈ (Builtin.zeroCells zero49 n).toList, v.oneCell' = true := by
  intro v hv
  have hall : ∀ k, k < zero49.size → (zero49[k]!).oneCell' = true := by decide
  simp only [Builtin.zeroCells, Array.toList_map, Array.toList_range, List.mem_map, List.mem_range] at hv
  obtain ⟨i, _, rfl⟩ := hv
  have hlt : i % zero49.size < zero49.size := Nat.mod_lt _ (by decide)
  exact hall _ hlt

theorem zeroCells_length (n : Nat) : (Builtin.zeroCells zero49 n).toList.length = n * 26 := by
  simp [Builtin.zeroCells, zero49]

/-- clear of n answers. -/
theorem run_clear (w : World) (ty : TypeId) (g n c : Nat) (hn : 0 < n) (h : Own w g n) :
    (Builtin.clear_ #[26] ty #[.slice (some ⟨g, 0, none⟩) n c]).run Try.prog w = .ok (.tuple #[]) (w.setCells g 0 (Builtin.zeroCells zero49 n).toList) := by
  have hst := run_storeCells_cells (P := Try.prog) g 0 (Builtin.zeroCells zero49 n).toList 0 w (fun j hj => (h j (by rw [zeroCells_length] at hj; exact hj)).1) (fun j hj => (h j (by rw [zeroCells_length] at hj; exact hj)).2) (zeroCells_one n)
  obtain ⟨m, rfl⟩ : ∃ m, n = m + 1 := ⟨n - 1, by omega⟩
  simp only [Nat.add_zero] at hst
  unfold zero49 at hst ⊢
  simp [Builtin.clear_, run_underlying Try.underlying26, Value.cells, hst]

theorem run_clear_none (w : World) (ty : TypeId) (a : Addr) (c : Nat) :
    (Builtin.clear_ #[26] ty #[.slice (some a) 0 c]).run Try.prog w = .ok (.tuple #[]) w := by
  simp [Builtin.clear_, run_underlying Try.underlying26]

theorem Col.keep {w w' : World} {B : Nat} {st gen tk : Int} {g m c : Nat} {wt : Bool} (h : Col w B st gen g m c tk wt) (hc : ∀ j, w'.cell? ⟨B, j, none⟩ = w.cell? ⟨B, j, none⟩) (hf : ∀ j, w'.frozen? ⟨B, j, none⟩ = w.frozen? ⟨B, j, none⟩) : Col w' B st gen g m c tk wt :=
  ⟨(hc _).trans h.c1, (hc _).trans h.c3, (hc _).trans h.c4, (hc _).trans h.c5, (hc _).trans h.c6, fun j => (hf j).trans (h.f j)⟩

/-- What the three stores of reset leave. -/
theorem reset_end {w : World} {B : Nat} {st gen tk : Int} {g m c N : Nat} {wt : Bool} (h : Col w B st gen g m c tk wt) (hN : N ≤ B) :
    Col (((w.setCell ⟨B, 4, none⟩ (.slice (some ⟨g, 0, none⟩) 0 c)).setCell ⟨B, 5, none⟩ (.int .i64 0)).setCell ⟨B, 6, none⟩ (.bool false)) B st gen g 0 c 0 false ∧
      Below N w (((w.setCell ⟨B, 4, none⟩ (.slice (some ⟨g, 0, none⟩) 0 c)).setCell ⟨B, 5, none⟩ (.int .i64 0)).setCell ⟨B, 6, none⟩ (.bool false)) := by
  obtain ⟨c1, c3, c4, c5, c6, f⟩ := h
  refine ⟨⟨?_, ?_, ?_, ?_, ?_, fun j => by simp [go_sem, f]⟩, (((Below.refl _ _).setCell (p := ⟨B, 4, none⟩) hN _).setCell (p := ⟨B, 5, none⟩) hN _).setCell (p := ⟨B, 6, none⟩) hN _⟩
  · simp [go_sem, c1]
  · simp [go_sem, c3]
  · simp [go_sem, c4]
  · simp [go_sem, c5]
  · simp [go_sem, c6]

theorem setCells_block (g : Nat) : ∀ (vs : List Value) (o : Nat) (w : World) (k : Nat), k ≠ g → (w.setCells g o vs).heap[k]? = w.heap[k]?
  | [], _, _, _, _ => rfl
  | v :: r, o, w, k, h => by
    rw [World.setCells, setCells_block g r (o + 1) _ k h]
    exact Below.heap_setCell _ _ _ _ h

theorem setCells_size (g : Nat) : ∀ (vs : List Value) (o : Nat) (w : World), (w.setCells g o vs).heap.size = w.heap.size ∧ (w.setCells g o vs).os = w.os ∧ (w.setCells g o vs).tape = w.tape ∧ (w.setCells g o vs).output = w.output
  | [], _, _ => ⟨rfl, rfl, rfl, rfl⟩
  | v :: r, o, w => by
    have h := setCells_size g r (o + 1) (w.setCell ⟨g, o, none⟩ v)
    rw [World.setCells]
    exact ⟨h.1.trans (by simp), h.2.1, h.2.2.1, h.2.2.2⟩

theorem below_setCells {w : World} {g N : Nat} (hN : N ≤ g) (vs : List Value) : Below N w (w.setCells g 0 vs) := by
  obtain ⟨h1, h2, h3, h4⟩ := setCells_size g vs 0 w
  exact ⟨h2, h3, h4, by omega, fun k hk => setCells_block g vs 0 w k (by omega)⟩

theorem col_setCells {w : World} {B : Nat} {st gen tk : Int} {g m c : Nat} {wt : Bool} (h : Col w B st gen g m c tk wt) (hne : B ≠ g) (vs : List Value) : Col (w.setCells g 0 vs) B st gen g m c tk wt :=
  h.keep (fun _ => World.cell?_of_block (w := w) (setCells_block g vs 0 w B hne)) (fun _ => World.frozen?_of_block (w := w) (setCells_block g vs 0 w B hne))

set_option maxHeartbeats 1000000 in
theorem f10_zero (B g c N : Nat) (st gen tk : Int) (wt : Bool) (w : World) (h : Col w B st gen g 0 c tk wt) (hN : N ≤ B) :
    Calls Try.prog 10 #[.pointer (some ⟨B, 0, none⟩)] w fun r w' => r = .returned (.tuple #[]) ∧ Col w' B st gen g 0 c 0 false ∧ Below N w w' := by
  have hcl := fun ty => run_clear_none w ty ⟨g, 0, none⟩ c
  have HR : Hid _ := reset_end h hN
  obtain ⟨c1, c3, c4, c5, c6, f⟩ := h
  go_enter Try.func10, Try.ntmps10
  go_wp2
  go_end0
  exact ⟨rfl, HR.out.1, HR.out.2⟩

set_option maxHeartbeats 1000000 in
theorem f10_pos (B g m c N : Nat) (st gen tk : Int) (wt : Bool) (w : World) (h : Col w B st gen g m c tk wt) (hm : 0 < m) (ho : Own w g m) (hne : B ≠ g) (hN : N ≤ B) (hNg : N ≤ g) :
    Calls Try.prog 10 #[.pointer (some ⟨B, 0, none⟩)] w fun r w' => r = .returned (.tuple #[]) ∧ Col w' B st gen g 0 c 0 false ∧ Below N w w' := by
  have hcl := fun ty => run_clear w ty g m c hm ho
  have hcol := col_setCells h hne (Builtin.zeroCells zero49 m).toList
  have hbel := below_setCells (w := w) hNg (Builtin.zeroCells zero49 m).toList
  generalize w.setCells g 0 (Builtin.zeroCells zero49 m).toList = w1 at hcl hcol hbel
  have HR : Hid _ := reset_end hcol hN
  obtain ⟨c1, c3, c4, c5, c6, f⟩ := h
  obtain ⟨d1, d3, d4, d5, d6, f'⟩ := hcol
  go_enter Try.func10, Try.ntmps10
  go_wp2
  go_end0
  exact ⟨rfl, HR.out.1, hbel.trans HR.out.2⟩

/-- (*collector).reset. -/
theorem f10_any (B g m c N : Nat) (st gen tk : Int) (wt : Bool) (w : World) (h : Col w B st gen g m c tk wt) (ho : Own w g m) (hne : B ≠ g) (hN : N ≤ B) (hNg : N ≤ g) :
    Calls Try.prog 10 #[.pointer (some ⟨B, 0, none⟩)] w fun r w' => r = .returned (.tuple #[]) ∧ Col w' B st gen g 0 c 0 false ∧ Below N w w' := by
  by_cases hm : 0 < m
  · exact f10_pos B g m c N st gen tk wt w h hm ho hne hN hNg
  · obtain rfl : m = 0 := by omega
    exact f10_zero B g c N st gen tk wt w h hN

/-- The next generation. -/
def up (x : Int) : Int := IntKind.u64.wrap (x + 1)

theorem own_setCell {w : World} {g m B j : Nat} (h : Own w g m) (hne : B ≠ g) (v : Value) : Own (w.setCell ⟨B, j, none⟩ v) g m := fun i hi => by
  have hb : (w.setCell ⟨B, j, none⟩ v).heap[g]? = w.heap[g]? := Below.heap_setCell _ _ _ _ (Ne.symm hne)
  rw [World.cell?_of_block (w := w) hb, World.frozen?_of_block (w := w) hb]
  exact h i hi

theorem col_lock {w : World} {B : Nat} {st gen tk : Int} {g m c : Nat} {wt : Bool} (h : Col w B st gen g m c tk wt) (s : Int) : Col (w.setCell ⟨B, 1, none⟩ (.int .i32 s)) B s gen g m c tk wt := by
  obtain ⟨c1, c3, c4, c5, c6, f⟩ := h
  exact ⟨by simp [go_sem, c1], by simp [go_sem, c3], by simp [go_sem, c4], by simp [go_sem, c5], by simp [go_sem, c6], fun j => by simp [go_sem, f]⟩

theorem col_gen {w : World} {B : Nat} {st gen tk : Int} {g m c : Nat} {wt : Bool} (h : Col w B st gen g m c tk wt) (x : Int) : Col (w.setCell ⟨B, 3, none⟩ (.int .u64 x)) B st x g m c tk wt := by
  obtain ⟨c1, c3, c4, c5, c6, f⟩ := h
  exact ⟨by simp [go_sem, c1], by simp [go_sem, c3], by simp [go_sem, c4], by simp [go_sem, c5], by simp [go_sem, c6], fun j => by simp [go_sem, f]⟩

set_option maxHeartbeats 1000000 in
/-- (*collector).end, the lock free. -/
theorem f8_any (B g m c N : Nat) (gen tk : Int) (wt : Bool) (w : World) (h : Col w B 0 gen g m c tk wt) (ho : Own w g m) (hne : B ≠ g) (hN : N ≤ B) (hNg : N ≤ g) :
    Calls Try.prog 8 #[.pointer (some ⟨B, 0, none⟩)] w fun r w' => r = .returned (.tuple #[]) ∧ Col w' B 0 (up gen) g 0 c 0 false ∧ Below N w w' := by
  have h1 := col_lock h 1
  have h2 := col_gen h1 (up gen)
  have o2 := own_setCell (j := 3) (own_setCell (j := 1) ho hne (.int .i32 1)) hne (.int .u64 (up gen))
  have HB : Hid (Below N w ((w.setCell ⟨B, 1, none⟩ (.int .i32 1)).setCell ⟨B, 3, none⟩ (.int .u64 (up gen)))) := ((Below.refl _ _).setCell (p := ⟨B, 1, none⟩) hN _).setCell (p := ⟨B, 3, none⟩) hN _
  have hup : IntKind.u64.wrap (gen + 1) = up gen := rfl
  obtain ⟨c1, c3, c4, c5, c6, f⟩ := h
  have f1 := f 1
  go_enter Try.func8, Try.ntmps8
  go_wp2_with (go_at_call 9; refine (lock_free Try.muLib ⟨B, 1, none⟩ _ c1 f1).mono ?_; rintro e w' ⟨rfl, rfl⟩)
  refine (f10_any B g m c N 1 (up gen) tk wt _ h2 o2 hne hN hNg).mono ?_
  rintro e w2 ⟨rfl, hc2, b2⟩
  have B2 : Below N w w2 := HB.out.trans b2
  clear c1 c3 c4 c5 c6 f f1 h1 h2 o2 HB b2 hup
  go_wp2_with fail
  refine (unlock_held Try.muLib ⟨B, 1, none⟩ _ hc2.c1 (hc2.f 1)).mono ?_
  rintro e w3 ⟨rfl, rfl⟩
  have HC : Hid _ := col_lock hc2 0
  have HB3 : Hid _ := B2.setCell (p := ⟨B, 1, none⟩) hN (.int .i32 0)
  clear hc2 B2
  go_wp2
  go_end0
  exact ⟨rfl, HC.out, HB3.out⟩

/-- ZZcollectorEnd. -/
theorem f6_any (B g m c N : Nat) (gen tk : Int) (wt : Bool) (w : World) (h : Col w B 0 gen g m c tk wt) (ho : Own w g m) (hne : B ≠ g) (hN : N ≤ B) (hNg : N ≤ g) :
    Calls Try.prog 6 #[.pointer (some ⟨B, 0, none⟩)] w fun r w' => r = .returned (.tuple #[]) ∧ Col w' B 0 (up gen) g 0 c 0 false ∧ Below N w w' := by
  go_enter Try.func6, Try.ntmps6
  go_wp2_with fail
  refine (f8_any B g m c N gen tk wt w h ho hne hN hNg).mono ?_
  rintro e w2 ⟨rfl, hc2, b2⟩
  have HC : Hid _ := hc2
  have HB : Hid _ := b2
  clear hc2 b2
  go_wp2
  go_end0
  exact ⟨rfl, HC.out, HB.out⟩

theorem Col.drewN {w : World} {B : Nat} {st gen tk : Int} {g m c : Nat} {wt : Bool} (h : Col w B st gen g m c tk wt) (n : Nat) : Col (w.drewN n) B st gen g m c tk wt :=
  h.keep (fun _ => by simp [go_sem]) (fun _ => by simp [go_sem])

/-- ZZcollectorState. -/
theorem f7_any (B g m c : Nat) (st gen tk : Int) (wt : Bool) (w : World) (h : Col w B st gen g m c tk wt) :
    Calls Try.prog 7 #[.pointer (some ⟨B, 0, none⟩)] w fun r w' => r = .returned (.tuple #[.int .u64 gen, .int .i64 m, .int .i64 tk, .bool wt]) ∧ Col w' B st gen g m c tk wt ∧ ∃ n, w' = w.drewN n := by
  have HC : Hid (Col w B st gen g m c tk wt) := h
  obtain ⟨c1, c3, c4, c5, c6, f⟩ := h
  go_enter Try.func7, Try.ntmps7
  go_wp2
  go_quiet (fail)
  go_wp2
  refine bodyPost_ret (v := .tuple #[.int .u64 gen, .int .i64 m, .int .i64 tk, .bool wt]) (by simp [results, Try.results7, go_sem]) rfl ⟨rfl, HC.out.drewN _, _, rfl⟩

/-- A slice of n numbers. -/
def Row (w : World) (a : Option Addr) (n : Nat) (zs : List Int) : Prop := n = 0 ∨ ∃ b off, a = some ⟨b, off, none⟩ ∧ ∀ j, j < n → w.cell? ⟨b, off + j, none⟩ = some (.int .i64 (zs.getD j 0))

theorem Row.below {w w' : World} {a : Option Addr} {n : Nat} {zs : List Int} (h : Row w a n zs) (hb : Below w.heap.size w w') : Row w' a n zs := by
  rcases h with h | ⟨b, off, ha, hc⟩
  · exact .inl h
  · exact .inr ⟨b, off, ha, fun j hj => (hb.cell (World.block_lt_of_cell? w _ (hc j hj))).trans (hc j hj)⟩

theorem own_of_row {w : World} {base g n c : Nat} {xs : List Value} (h : w.ownsRow base 49 26 (.slice (some ⟨g, 0, none⟩) n c) n xs) : Own w g n := fun j hj => by
  rw [Nat.zero_add]
  refine ⟨?_, h.frozenAt j⟩
  have hl := h.1
  rw [h.cellAt j hj, List.getElem?_eq_getElem (by omega)]; rfl

set_option maxHeartbeats 1000000 in
/-- ZZnewCollector. -/
theorem f5_any (a : Option Addr) (n cap : Nat) (zs : List Int) (gen tk : Int) (wt : Bool) (w : World) (hn : n ≤ 65536) (hr : Row w a n zs) :
    Calls Try.prog 5 #[.int .u64 gen, .slice a n cap, .int .i64 tk, .bool wt] w fun r w' => ∃ (B g : Nat), r = .returned (.tuple #[.pointer (some ⟨B, 0, none⟩), .slice (some ⟨g, 0, none⟩) n n]) ∧
      Col w' B 0 gen g n n tk wt ∧ Own w' g n ∧ B ≠ g ∧ w.heap.size ≤ B ∧ w.heap.size ≤ g ∧ Below w.heap.size w w' := by
  obtain ⟨i0, hi, hz0, hz1, hz2⟩ := info_parts info49
  go_enter Try.func5, Try.ntmps5
  go_wp2_with (at_make; refine wpList_make_full _ rfl _ _ 26 rfl w.heap.size 49 i0 (.agg zero49) 26 Try.underlying26 hi hz0 hz1 .i64 .i64 _ _ n rfl rfl rfl rfl ?_ ?_ ?_ ?_)
  case refine_1 => rw [hz2]; omega
  case refine_2 => unfold maxLen; omega
  case refine_3 => omega
  intro w1 hown hgrow
  have hb : Below w.heap.size w w1 := (Below.refl _ _).grown hgrow (Nat.le_refl _) (by intro k hk; cases hk)
  obtain ⟨xs, hown⟩ : ∃ xs, w1.ownsRow w.heap.size 49 26 (.slice (some ⟨w.heap.size, 0, none⟩) n n) n xs := ⟨_, hown⟩
  clear hgrow hi hz0 hz1 hz2
  go_wp2
  go_loopw [11] (fun i wr => ∃ k : Nat, k ≤ n ∧ i = .int .i64 k ∧ (∃ xs, wr.ownsRow w.heap.size 49 26 (.slice (some ⟨w.heap.size, 0, none⟩) n n) n xs) ∧ Below w.heap.size w wr) (fun i _ => n - (intOf i).toNat)
  case atStart => exact ⟨0, Nat.zero_le _, rfl, ⟨_, hown⟩, hb⟩
  case round =>
    obtain ⟨k, hk, rfl, ⟨ys, hown⟩, hb⟩ := hrel
    by_cases hlt : k < n
    · have hr1 := hr.below hb
      rcases hr1 with hr1 | ⟨b, off, ha, hc⟩
      · omega
      subst ha
      have x0 := hc k hlt
      generalize zs.getD k 0 = v at x0
      have hl : ys.length = n * 26 := hown.1
      obtain ⟨old, ho⟩ : ∃ old, wr.cell? ⟨w.heap.size, k * 26, none⟩ = some old := by
        rw [hown.cellAt _ (by omega)]; exact ⟨_, List.getElem?_eq_getElem (by omega)⟩
      have hf := hown.frozenAt (k * 26)
      have HO : Hid (∃ xs, (wr.setCell ⟨w.heap.size, k * 26, none⟩ (.int .i64 v)).ownsRow w.heap.size 49 26 (.slice (some ⟨w.heap.size, 0, none⟩) n n) n xs) := ⟨_, (hown.stored (k * 26) _).1⟩
      have HB : Hid (Below w.heap.size w (wr.setCell ⟨w.heap.size, k * 26, none⟩ (.int .i64 v))) := hb.setCell (Nat.le_refl _) _
      clear hc hown hl hr
      go_wp2
      go_roundw
      case rel => exact ⟨k + 1, by omega, by go_num, HO.out, HB.out⟩
      case measure => simp [intOf]; omega
    · have ho := own_of_row hown
      have hlt2 : w.heap.size < wr.heap.size := (hown.lt _ rfl).2
      have HO : Hid (Own wr w.heap.size n) := ho
      have HB : Hid (Below w.heap.size w wr) := hb
      clear ho hb hown hr
      go_wp2
      go_ret2
      refine ⟨wr.heap.size, w.heap.size, rfl, ⟨by simp [go_sem], by simp [go_sem], by simp [go_sem], by simp [go_sem], by simp [go_sem], fun j => by simp [go_sem]⟩, fun j hj => ?_, by omega, HB.out.size, Nat.le_refl _, HB.out.alloc HB.out.size _⟩
      have hb : ∀ o : Obj, (wr.alloc o).heap[w.heap.size]? = wr.heap[w.heap.size]? := fun o => Below.heap_alloc _ _ _ hlt2
      rw [World.cell?_of_block (w := wr) (hb _), World.frozen?_of_block (w := wr) (hb _)]
      exact HO.out j hj
end Go.Proofs.Qxb6612815a
