import Derived.Test.Qxb6612694aCallees
import Derived.StillTailTactics
namespace Go.Proofs.Qxb6612694a
open Go.RowKit

/-- What weekState hands back. -/
def WSr (ss es : List Int) (n : Nat) (pos : Int) (r : Ending) : Prop := ∃ (o : Bool) (ed : Int), r = .returned (.tuple #[.bool o, .int .i64 ed]) ∧ WS ss es n pos o ed

theorem WF.esorted {ss es : List Int} {n : Nat} (h : WF ss es n) : ∀ i j, i < j → j < n → es.getD i 0 ≤ es.getD j 0 := fun i j hij hj => by
  have := h.emono i j hij hj; omega

set_option maxHeartbeats 1000000 in
theorem f11_any (g n c : Nat) (ss es : List Int) (pos : Int) (w : World) (hn : n ≤ 65536) (hsp : Spans w g ss es n) (hwf : WF ss es n) (hp0 : 0 ≤ pos) (hp1 : pos < 604800000000000) :
    Calls Try.prog 11 #[.agg #[.bool false, .slice (some ⟨g, 0, none⟩) n c, .pointer none], .int .i64 pos] w fun r w' => WSr ss es n pos r ∧ Below w.heap.size w w' := by
  have hpos := hwf.pos
  have b0 : ∀ o : Obj, Below w.heap.size w (w.alloc o) := fun o => (Below.refl _ _).alloc (Nat.le_refl _) _
  obtain ⟨y0, y1⟩ := (hsp.below (b0 (.cells #[.bool false, .slice (some ⟨g, 0, none⟩) n c, .pointer none] 35))) (n - 1) (by omega)
  have hlast := hwf.ebound (n - 1) (by omega)
  have hss0 := hwf.lo 0 hpos
  have hss1 := hwf.hi 0 hpos
  have HSP : Hid (Spans (w.alloc (.cells #[.bool false, .slice (some ⟨g, 0, none⟩) n c, .pointer none] 35)) g ss es n) := hsp.below (b0 _)
  have HW : Hid (WF ss es n) := hwf
  have HB : Hid (∀ o : Obj, Below w.heap.size w (w.alloc o)) := b0
  clear hsp hwf b0 y0
  generalize hE : es.getD (n - 1) 0 = el at y1 hlast
  have HE : Hid (es.getD (n - 1) 0 = el) := hE
  clear hE
  have hn1 : (1 : Int) ≤ (n : Int) := by omega
  by_cases hcase : pos < el * 60000000000 - 604800000000000
  · go_enter Try.func11, Try.ntmps11
    go_wp2_with fail
    refine (f12_any el _ (by omega) (by omega)).mono ?_
    rintro e w1 ⟨rfl, rfl⟩
    go_wp2
    go_ret2
    exact ⟨⟨true, _, rfl, .inl ⟨rfl, by rw [HE.out]; exact hcase, by rw [HE.out]⟩⟩, HB.out _⟩
  · have hq0 : 0 ≤ pos / 60000000000 := by omega
    have hq1 : pos / 60000000000 < 10080 := by omega
    go_enter Try.func11, Try.ntmps11
    go_wp2_with fail
    refine (f12_any el _ (by omega) (by omega)).mono ?_
    rintro e w1 ⟨rfl, rfl⟩
    go_wp2_with fail
    refine (f13_any g n c ss es (pos / 60000000000 + 1) _ hn HSP.out HW.out.esorted).mono ?_
    rintro e w1 ⟨i, x, rfl, hi, hlo, hhi, b1⟩
    have c1 := b1.cell (p := ⟨w.heap.size, 1, none⟩) (by simp)
    simp [go_sem] at c1
    have hsp1 := HSP.out.below b1
    have B1 : Below w.heap.size w w1 := (HB.out _).trans (b1.mono (by simp))
    have HLo : Hid (∀ j, j < i → es.getD j 0 < pos / 60000000000 + 1) := hlo
    have HHi : Hid (∀ j, i ≤ j → j < n → pos / 60000000000 + 1 ≤ es.getD j 0) := hhi
    have HC : Hid (es.getD (n - 1) 0 * 60000000000 - 604800000000000 ≤ pos) := by
      show es.getD (n - 1) 0 * 60000000000 - 604800000000000 ≤ pos
      rw [HE.out]; omega
    clear y1 b1 hlo hhi HSP
    by_cases hin : i < n
    · obtain ⟨z0, z1⟩ := hsp1 i hin
      have hs0 := HW.out.lo i hin
      have hs1 := HW.out.hi i hin
      have he1 := HW.out.ebound i hin
      have hin' : (i : Int) < (n : Int) := by omega
      have hne : ((i : Int) == (n : Int)) = false := beq_eq_false_iff_ne.2 (by omega)
      generalize hS : ss.getD i 0 = s at z0 hs0 hs1
      generalize hE2 : es.getD i 0 = e at z1 he1
      have HS2 : Hid (ss.getD i 0 = s) := hS
      have HE2 : Hid (es.getD i 0 = e) := hE2
      clear hS hE2 hsp1
      by_cases hps : pos < s * 60000000000
      · go_wp2_with fail
        refine (f12_any s _ (by omega) (by omega)).mono ?_
        rintro e w2 ⟨rfl, rfl⟩
        go_wp2_with fail
        refine (f12_any s _ (by omega) (by omega)).mono ?_
        rintro e w2 ⟨rfl, rfl⟩
        go_wp2
        go_ret2
        exact ⟨⟨false, _, rfl, .inr ⟨Int.not_lt.2 HC.out, i, hi, HLo.out, HHi.out, .inr (.inl ⟨hin, by rw [HS2.out]; exact hps, rfl, by rw [HS2.out]⟩)⟩⟩, B1.alloc B1.size _⟩
      · go_wp2_with fail
        refine (f12_any s _ (by omega) (by omega)).mono ?_
        rintro e w2 ⟨rfl, rfl⟩
        go_wp2_with fail
        refine (f12_any e _ (by omega) (by omega)).mono ?_
        rintro e w2 ⟨rfl, rfl⟩
        go_wp2
        go_ret2
        exact ⟨⟨true, _, rfl, .inr ⟨Int.not_lt.2 HC.out, i, hi, HLo.out, HHi.out, .inr (.inr ⟨hin, by rw [HS2.out]; omega, rfl, by rw [HE2.out]⟩)⟩⟩, B1.alloc B1.size _⟩
    · obtain rfl : i = n := by omega
      obtain ⟨z0, z1⟩ := hsp1 0 hpos
      simp only [Nat.zero_mul] at z0
      generalize hS : ss.getD 0 0 = s at z0 hss0 hss1
      have HS2 : Hid (ss.getD 0 0 = s) := hS
      have hpos' : (0 : Int) < (i : Int) := by omega
      clear hS hsp1 z1
      go_wp2_with fail
      refine (f12_any s _ (by omega) (by omega)).mono ?_
      rintro e w2 ⟨rfl, rfl⟩
      go_wp2
      go_ret2
      exact ⟨⟨false, _, rfl, .inr ⟨Int.not_lt.2 HC.out, i, hi, HLo.out, HHi.out, .inl ⟨rfl, rfl, by rw [HS2.out]⟩⟩⟩, B1⟩

theorem info30 : (Try.prog.info? 30).map (fun i => (i.zero, i.size, i.bytes)) = some (some (.agg #[.int .i64 0, .int .i64 0]), 2, 16) := by kernel_rfl

/-- A slice of n numbers at 'a'. -/
def Row (w : World) (b off n : Nat) (zs : List Int) : Prop := ∀ j, j < n → w.cell? ⟨b, off + j, none⟩ = some (.int .i64 (zs.getD j 0))

theorem Row.below {w w' : World} {b off n : Nat} {zs : List Int} (h : Row w b off n zs) (hb : Below w.heap.size w w') : Row w' b off n zs :=
  fun j hj => (hb.cell (World.block_lt_of_cell? w _ (h j hj))).trans (h j hj)

/-- What has been laid of the spans. -/
def Laid (xs : List Value) (ss es : List Int) (k : Nat) : Prop := ∀ j, j < k → xs[j * 2]? = some (.int .i64 (ss.getD j 0)) ∧ xs[j * 2 + 1]? = some (.int .i64 (es.getD j 0))

theorem spans_of_own {w : World} {base g c n : Nat} {xs : List Value} {ss es : List Int} (h : w.ownsRow base 30 2 (.slice (some ⟨g, 0, none⟩) n c) n xs) (hx : Laid xs ss es n) : Spans w g ss es n := by
  intro j hj
  obtain ⟨h1, h2⟩ := hx j hj
  exact ⟨(h.cellAt _ (by omega)).trans h1, (h.cellAt _ (by omega)).trans h2⟩

theorem lay_step {w wr : World} {n k : Nat} {xs : List Value} {ss es : List Int} {s e : Int} (hk : k < n) (hown : wr.ownsRow w.heap.size 30 2 (.slice (some ⟨w.heap.size, 0, none⟩) n n) n xs) (hx : Laid xs ss es k) (hb : Below w.heap.size w wr)
    (hs : ss.getD k 0 = s) (he : es.getD k 0 = e) :
    (∃ ys, ((wr.drew.setCell ⟨w.heap.size, k * 2, none⟩ (.int .i64 s)).setCell ⟨w.heap.size, k * 2 + 1, none⟩ (.int .i64 e)).ownsRow w.heap.size 30 2 (.slice (some ⟨w.heap.size, 0, none⟩) n n) n ys ∧ Laid ys ss es (k + 1)) ∧
      Below w.heap.size w ((wr.drew.setCell ⟨w.heap.size, k * 2, none⟩ (.int .i64 s)).setCell ⟨w.heap.size, k * 2 + 1, none⟩ (.int .i64 e)) := by
  have hl : xs.length = n * 2 := hown.1
  refine ⟨⟨_, (((hown.drew).stored (k * 2) _).1.stored (k * 2 + 1) _).1, fun j hj => ?_⟩, (hb.drew.setCell (Nat.le_refl _) _).setCell (Nat.le_refl _) _⟩
  by_cases ej : j = k
  · subst ej
    refine ⟨?_, ?_⟩
    · rw [List.getElem?_set_ne (by omega), List.getElem?_set_self (by omega), hs]
    · rw [List.getElem?_set_self (by simp; omega), he]
  · obtain ⟨h1, h2⟩ := hx j (by omega)
    refine ⟨?_, ?_⟩
    · rw [List.getElem?_set_ne (by omega), List.getElem?_set_ne (by omega)]; exact h1
    · rw [List.getElem?_set_ne (by omega), List.getElem?_set_ne (by omega)]; exact h2

set_option maxHeartbeats 1000000 in
/-- ZZweekState. -/
theorem f8_any (b off cap b' off' cap' n : Nat) (ss es : List Int) (pos : Int) (w : World) (hn : n ≤ 65536) (hS : Row w b off n ss) (hE : Row w b' off' n es) (hwf : WF ss es n) (hp0 : 0 ≤ pos) (hp1 : pos < 604800000000000) :
    Calls Try.prog 8 #[.slice (some ⟨b, off, none⟩) n cap, .slice (some ⟨b', off', none⟩) n cap', .int .i64 pos] w fun r w' => WSr ss es n pos r ∧ Below w.heap.size w w' := by
  obtain ⟨i0, hi, hz0, hz1, hz2⟩ := info_parts info30
  have HS : Hid (Row w b off n ss) := hS
  have HE : Hid (Row w b' off' n es) := hE
  clear hS hE
  go_enter Try.func8, Try.ntmps8
  go_wp2_with (at_make; refine wpList_make_full _ rfl _ _ 28 rfl w.heap.size 30 i0 (.agg #[.int .i64 0, .int .i64 0]) 2 Try.underlying28 hi hz0 hz1 .i64 .i64 _ _ n rfl rfl rfl rfl ?_ ?_ ?_ ?_)
  case refine_1 => rw [hz2]; omega
  case refine_2 => unfold maxLen; omega
  case refine_3 => omega
  intro w1 hown hgrow
  have hb : Below w.heap.size w w1 := (Below.refl _ _).grown hgrow (Nat.le_refl _) (by intro k hk; cases hk)
  clear hgrow hi hz0 hz1 hz2
  go_wp2
  go_loopw [17] (fun i wr => ∃ k : Nat, k ≤ n ∧ i = .int .i64 k ∧ (∃ xs, wr.ownsRow w.heap.size 30 2 (.slice (some ⟨w.heap.size, 0, none⟩) n n) n xs ∧ Laid xs ss es k) ∧ Below w.heap.size w wr)
    (fun i _ => n - (intOf i).toNat)
  case atStart => exact ⟨0, Nat.zero_le _, rfl, ⟨_, hown, fun j hj => by omega⟩, hb⟩
  case round =>
    obtain ⟨k, hk, rfl, ⟨xs, hown, hxs⟩, hb⟩ := hrel
    by_cases hlt : k < n
    · have hlt' : (k : Int) < (n : Int) := by omega
      have x0 := HS.out.below hb k hlt
      have x1 := HE.out.below hb k hlt
      have hl : xs.length = n * 2 := hown.1
      generalize hs : ss.getD k 0 = s at x0
      generalize he : es.getD k 0 = e at x1
      have HR : Hid _ := lay_step hlt hown hxs hb hs he
      obtain ⟨o1, ho1⟩ : ∃ v, wr.cell? ⟨w.heap.size, k * 2, none⟩ = some v := by rw [hown.cellAt _ (by omega)]; exact ⟨_, List.getElem?_eq_getElem (by omega)⟩
      obtain ⟨o2, ho2⟩ : ∃ v, wr.cell? ⟨w.heap.size, k * 2 + 1, none⟩ = some v := by rw [hown.cellAt _ (by omega)]; exact ⟨_, List.getElem?_eq_getElem (by omega)⟩
      have g1 := hown.frozenAt (k * 2)
      have g2 := hown.frozenAt (k * 2 + 1)
      clear hown hxs hs he hl
      go_wp2
      go_still_tail 12, (by kernel_rfl)
      rw [show ({ heap := wr.heap, tape := wr.tape, drawn := wr.drawn + 1, os := wr.os, output := wr.output } : World) = wr.drew from rfl]
      go_wp2
      go_roundw
      case rel => exact ⟨k + 1, by omega, by go_num, HR.out.1, HR.out.2⟩
      case measure => simp [intOf]; omega
    · obtain rfl : k = n := by omega
      go_wp2_with fail
      refine (f11_any w.heap.size k k ss es pos wr hn (spans_of_own hown hxs) hwf hp0 hp1).mono ?_
      rintro e w2 ⟨⟨o, ed, rfl, hws⟩, b2⟩
      have B2 : Below w.heap.size w w2 := hb.trans (b2.mono hb.size)
      have HWS : Hid (WS ss es k pos o ed) := hws
      clear hws b2
      go_wp2
      go_ret2
      exact ⟨⟨o, ed, rfl, HWS.out⟩, B2⟩
end Go.Proofs.Qxb6612694a
