import Derived.Test.Qxb6612677aLaw3
namespace Go.Proofs.Qxb6612677a
open Go.RowKit

/-- The struct that came in by value, in its box. -/
structure Put (w : World) (B : Nat) (pk : ByteArray) (ps pe : Int) : Prop where
  c0 : w.cell? ⟨B, 0, none⟩ = some (.string pk)
  c1 : w.cell? ⟨B, 1, none⟩ = some (.int .i64 ps)
  c2 : w.cell? ⟨B, 2, none⟩ = some (.int .i64 pe)

theorem Put.below {w w' : World} {B : Nat} {pk : ByteArray} {ps pe : Int} (h : Put w B pk ps pe) (hb : Below w.heap.size w w') : Put w' B pk ps pe :=
  have hB : B < w.heap.size := World.block_lt_of_cell? w _ h.c0
  ⟨(hb.cell (by exact hB)).trans h.c0, (hb.cell (by exact hB)).trans h.c1, (hb.cell (by exact hB)).trans h.c2⟩

theorem Put.lt {w : World} {B : Nat} {pk : ByteArray} {ps pe : Int} (h : Put w B pk ps pe) : B < w.heap.size := World.block_lt_of_cell? w _ h.c0

theorem below_drawn {B : Nat} {w w' : World} (h : Below B w w') : Below B w.drew w' := ⟨h.os, h.tape, h.output, h.size, h.block⟩

/-- What the law's end asks, of plain data. -/
structure Fin4 (key pk : ByteArray) (ps pe : Int) (bk ak : ByteArray) (bs be aS ae : Int) (bok aok er : Bool) : Prop where
  out : (er = false ∧ (pk.toList == key.toList) = true ∧ aok = true ∧ ak = pk ∧ aS = ps ∧ ae = pe) ∨
    (er = true ∧ aok = bok ∧ ak = bk ∧ aS = bs ∧ ae = be) ∨
    (er = false ∧ (pk.toList == key.toList) = false ∧ aok = bok ∧ ak = bk ∧ aS = bs ∧ ae = be)

theorem fin4 (ms : List M) (cut : Nat) (key pk : ByteArray) (ps pe : Int) : Fin4 key pk ps pe (mkey (ms.find? (hit key))) (mkey ((ms.take cut ++ [(pk, ps, pe)] ++ ms.drop cut).find? (hit key))) (mst (ms.find? (hit key))) (men (ms.find? (hit key)))
    (mst ((ms.take cut ++ [(pk, ps, pe)] ++ ms.drop cut).find? (hit key))) (men ((ms.take cut ++ [(pk, ps, pe)] ++ ms.drop cut).find? (hit key))) (ms.find? (hit key)).isSome ((ms.take cut ++ [(pk, ps, pe)] ++ ms.drop cut).find? (hit key)).isSome
    (anyK (hit key) ms cut) := by
  unfold anyK
  have happ : ms.find? (hit key) = ((ms.take cut).find? (hit key)).or ((ms.drop cut).find? (hit key)) := by
    have h := List.find?_append (xs := ms.take cut) (ys := ms.drop cut) (p := hit key)
    rw [List.take_append_drop] at h
    exact h
  have hany : (ms.take cut).any (hit key) = ((ms.take cut).find? (hit key)).isSome := by rw [List.isSome_find?]
  rw [List.find?_append, List.find?_append, hany, happ]
  constructor
  cases hh : (ms.take cut).find? (hit key) with
  | some m =>
    right; left
    simp
  | none =>
    cases hp : (pk.toList == key.toList) with
    | true =>
      left
      have hit1 : hit key (pk, ps, pe) = true := hp
      simp [hit1, mkey, mst, men]
    | false =>
      right; right
      have hit1 : hit key (pk, ps, pe) = false := hp
      simp [hit1]

set_option maxHeartbeats 8000000 in
set_option maxRecDepth 100000 in
theorem f4_main (a : Option Addr) (n cap cut : Nat) (ms : List M) (le : Int) (nl ind un key pk : ByteArray) (ps pe : Int) (w : World) (harg : Arg w a n ms)
    (hn : n ≤ 32768) (hcut : cut ≤ n) (h1 : nl.size ≤ maxLen) (h2 : ind.size ≤ maxLen) (h3 : un.size ≤ maxLen) (h4 : key.size ≤ maxLen) (h5 : pk.size ≤ maxLen) :
    Calls Try.prog 4 #[.slice a n cap, .int .i64 le, .string nl, .string ind, .string un, .string key, .int .i64 cut, .agg #[.string pk, .int .i64 ps, .int .i64 pe]] w fun r w' => r = .returned (.bool true) ∧ Below w.heap.size w w' := by
  have hmx : n ≤ maxLen := by unfold maxLen; omega
  have hput : Put (w.alloc (.cells #[.string pk, .int .i64 ps, .int .i64 pe] 32)) w.heap.size pk ps pe := ⟨by simp [go_sem], by simp [go_sem], by simp [go_sem]⟩
  have b0 : Below w.heap.size w (w.alloc (.cells #[.string pk, .int .i64 ps, .int .i64 pe] 32)) := (Below.refl _ _).alloc (Nat.le_refl _) _
  have harg0 := harg.below b0
  clear harg
  go_enter Try.func4, Try.ntmps4
  go_wp2_with fail
  refine (f12_any _ n cap ms le cut nl ind un key pk ps pe _ harg0 hmx h1 h2 h3 h4 h5).mono ?_
  rintro e w0 ⟨⟨x, rfl⟩, b0'⟩
  have B0 : Below w.heap.size w w0 := b0.trans (b0'.mono (by simp))
  have hput0 := hput.below b0'
  have hargA := harg0.below b0'
  clear b0 b0' hput harg0
  cases x
  · go_wp2
    go_ret
    exact ⟨rfl, B0⟩
  obtain ⟨pc0, pc1, pc2⟩ := hput0
  go_wp2_with fail
  refine (f8_any _ n cap ms nl ind un key pk _ hargA hmx h1 h2 h3 h4 h5).mono ?_
  rintro e w1 ⟨⟨x, rfl, -⟩, b1'⟩
  have b1 : Below w.heap.size w w1 := B0.trans (b1'.mono B0.size)
  have hput1 := Put.below ⟨pc0, pc1, pc2⟩ b1'
  have harg1 := hargA.below b1'
  clear pc0 pc1 pc2 B0 b1' hargA
  cases x
  · go_wp2
    go_ret
    exact ⟨rfl, b1⟩
  clear h1 h2 h3 h4 h5 hmx
  have HL : Hid (ms.length = n) := harg1.1
  go_wp2_with (go_at_call 9; refine (f9_any le nl ind un _).mono ?_; rintro e w2 ⟨rfl, rfl⟩)
  go_loopw [18] (fun i wr => ∃ (k : Nat) (ao : Option Addr) (c : Nat), k ≤ n ∧ i = .int .i64 k ∧ Obj5 wr (w1.heap.size + 1) le nl ind un (ms.take k) ao k c ∧ Below w1.heap.size w1 wr) (fun i _ => n - (intOf i).toNat)
  case atStart => exact ⟨0, none, 0, Nat.zero_le _, rfl, (obj_start w1 le nl ind un).1, (obj_start w1 le nl ind un).2⟩
  case round =>
    obtain ⟨k, ao, c, hkn, rfl, hob, hbel⟩ := hrel
    by_cases hlt : k < n
    · have hlt' : (k : Int) < (n : Int) := by omega
      obtain ⟨b, off, ha, x0, x1, x2⟩ := (harg1.below hbel).at hlt
      subst ha
      have ht := take_step ms k (by have := HL.out; omega)
      generalize ms.getD k m0 = m at x0 x1 x2 ht
      obtain ⟨mk, mst, men⟩ := m
      dsimp only at x0 x1 x2
      have HT : Hid (ms.take (k + 1) = ms.take k ++ [(mk, mst, men)]) := ht
      have HO : Hid (Obj5 wr (w1.heap.size + 1) le nl ind un (ms.take k) ao k c) := hob
      have HS : w1.heap.size + 1 < wr.heap.size := hob.lt
      obtain ⟨own, c0, c1, c2, c3, c4, f⟩ := hob
      clear ht own f harg1 b1 hput1
      go_wp2
      go_still_tail 16, (by kernel_rfl)
      rw [show ({ heap := wr.heap, tape := wr.tape, drawn := wr.drawn + 1, os := wr.os, output := wr.output } : World) = wr.drew from rfl]
      go_wp2_with fail
      refine (f10_any ao k c le nl ind un mk mst men (w1.heap.size + 1 + 1) (mcells (ms.take k)) _ HO.out.own.drew (by simp; omega) (by omega)).mono ?_
      rintro e w3 ⟨g, c', rfl, hown', hb'⟩
      have R := obj_step HO.out hown' hb' _ HT.out
      obtain ⟨d0, d1, d2, d3, d4, g0, g1, g2, g3, g4⟩ := obj_after HO.out hb'
      have HR : Hid _ := R.1
      have HR2 := R.2 w1 w1.heap.size (Nat.le_succ _) hbel
      clear R hown' hb' c0 c1 c2 c3 c4 x0 x1 x2 HO HT
      go_wp2
      go_roundw
      case rel => exact ⟨k + 1, _, c', by omega, by go_num, HR.out, HR2⟩
      case measure => simp [intOf]; omega
    · have hkn' : k = n := by omega
      have htake : ms.take k = ms := by rw [hkn']; exact List.take_of_length_le (by have := HL.out; omega)
      rw [htake] at hob
      have hob1 : Obj5 wr (w1.heap.size + 1) le nl ind un ms ao n c := by rw [← hkn']; exact hob
      clear hkn' htake hob
      have bw : Below w.heap.size w wr := b1.trans (hbel.mono b1.size)
      have harg2 := harg1.below hbel
      have hput2 := hput1.below hbel
      clear b1 harg1 hbel hput1
      obtain ⟨w2, rfl⟩ : ∃ w2 : World, w2 = wr := ⟨_, rfl⟩
      go_wp2_with (go_at_call 9; refine (f9_any le nl ind un _).mono ?_; rintro e wz ⟨rfl, rfl⟩)
      go_loopw [20] (fun i wr => ∃ (k : Nat) (ao : Option Addr) (c : Nat), k ≤ cut ∧ i = .int .i64 k ∧ Obj5 wr (w2.heap.size + 1) le nl ind un (ms.take k) ao k c ∧ Below w2.heap.size w2 wr) (fun i _ => cut - (intOf i).toNat)
      case atStart => exact ⟨0, none, 0, Nat.zero_le _, rfl, (obj_start w2 le nl ind un).1, (obj_start w2 le nl ind un).2⟩
      case round =>
        obtain ⟨k, ao2, c2, hkn, rfl, hob, hbel⟩ := hrel
        by_cases hlt : k < cut
        · have hltc : (k : Int) < (cut : Int) := by omega
          have hltn : k < n := by omega
          have hlt' : (k : Int) < (n : Int) := by omega
          obtain ⟨b, off, ha, x0, x1, x2⟩ := (harg2.below hbel).at hltn
          subst ha
          have ht := take_step ms k (by have := HL.out; omega)
          generalize ms.getD k m0 = m at x0 x1 x2 ht
          obtain ⟨mk, mst, men⟩ := m
          dsimp only at x0 x1 x2
          have HT : Hid (ms.take (k + 1) = ms.take k ++ [(mk, mst, men)]) := ht
          have HO : Hid (Obj5 wr (w2.heap.size + 1) le nl ind un (ms.take k) ao2 k c2) := hob
          have HS : w2.heap.size + 1 < wr.heap.size := hob.lt
          obtain ⟨own, p0, p1, p2, p3, p4, f⟩ := hob
          clear ht own f harg2 bw hob1 hput2
          go_wp2
          go_still_tail 16, (by kernel_rfl)
          rw [show ({ heap := wr.heap, tape := wr.tape, drawn := wr.drawn + 1, os := wr.os, output := wr.output } : World) = wr.drew from rfl]
          go_wp2_with fail
          refine (f10_any ao2 k c2 le nl ind un mk mst men (w2.heap.size + 1 + 1) (mcells (ms.take k)) _ HO.out.own.drew (by simp; omega) (by omega)).mono ?_
          rintro e w3 ⟨g, c', rfl, hown', hb'⟩
          have R := obj_step HO.out hown' hb' _ HT.out
          obtain ⟨d0, d1, d2, d3, d4, g0, g1, g2, g3, g4⟩ := obj_after HO.out hb'
          have HR : Hid _ := R.1
          have HR2 := R.2 w2 w2.heap.size (Nat.le_succ _) hbel
          clear R hown' hb' p0 p1 p2 p3 p4 x0 x1 x2 HO HT
          go_wp2
          go_roundw
          case rel => exact ⟨k + 1, _, c', by omega, by go_num, HR.out, HR2⟩
          case measure => simp [intOf]; omega
        · have hkn' : k = cut := by omega
          have hob2 : Obj5 wr (w2.heap.size + 1) le nl ind un (ms.take cut) ao2 cut c2 := by rw [← hkn']; exact hob
          clear hkn' hob
          have HO : Hid (Obj5 wr (w2.heap.size + 1) le nl ind un (ms.take cut) ao2 cut c2) := hob2
          have HS : w2.heap.size + 1 < wr.heap.size := hob2.lt
          have hput3 := hput2.below hbel
          obtain ⟨pc0, pc1, pc2⟩ := hput3
          obtain ⟨own, p0, p1, p2, p3, p4, f⟩ := hob2
          obtain ⟨w3, rfl⟩ : ∃ w3 : World, w3 = wr := ⟨_, rfl⟩
          clear own f
          go_wp2_with fail
          refine (f10_any ao2 cut c2 le nl ind un pk ps pe (w2.heap.size + 1 + 1) (mcells (ms.take cut)) _ HO.out.own (by omega) (by omega)).mono ?_
          rintro e w4 ⟨g, c', rfl, hown', hb'⟩
          have R := obj_step HO.out hown' (below_drawn hb') _ rfl
          obtain ⟨d0, d1, d2, d3, d4, g0, g1, g2, g3, g4⟩ := obj_after HO.out (below_drawn hb')
          have HR : Hid _ := R.1
          have HR2 := R.2 w2 w2.heap.size (Nat.le_succ _) hbel
          clear R hown' hb' p0 p1 p2 p3 p4 HO pc0 pc1 pc2 hbel
          go_wp2_with fail
          go_loopw [21] (fun i wr => ∃ (k q L : Nat) (ao : Option Addr) (c : Nat), k ≤ n ∧ Hid (k = cut + q ∧ L = cut + 1 + q) ∧ i = .int .i64 k ∧ Obj5 wr (w2.heap.size + 1) le nl ind un ((ms.take cut ++ [(pk, ps, pe)]) ++ (ms.drop cut).take q) ao L c ∧ Below w2.heap.size w2 wr) (fun i _ => n - (intOf i).toNat)
          case atStart => exact ⟨cut, 0, cut + 1, _, c', hcut, ⟨rfl, rfl⟩, rfl, by rw [List.take_zero, List.append_nil]; exact HR.out, HR2⟩
          case round =>
            obtain ⟨k, q, L, ao3, c3, hkn, hkq, rfl, hob, hbel⟩ := hrel
            by_cases hlt : k < n
            · have hlt' : (k : Int) < (n : Int) := by omega
              obtain ⟨b, off, ha, x0, x1, x2⟩ := (harg2.below hbel).at hlt
              subst ha
              have ht := take_step (ms.drop cut) q (by have := HL.out; have := hkq.out; simp; omega)
              rw [getD_drop, ← hkq.out.1] at ht
              generalize ms.getD k m0 = m at x0 x1 x2 ht
              obtain ⟨mk, mst, men⟩ := m
              dsimp only at x0 x1 x2
              have HT : Hid ((ms.take cut ++ [(pk, ps, pe)]) ++ (ms.drop cut).take (q + 1) = ((ms.take cut ++ [(pk, ps, pe)]) ++ (ms.drop cut).take q) ++ [(mk, mst, men)]) := by
                show (ms.take cut ++ [(pk, ps, pe)]) ++ (ms.drop cut).take (q + 1) = ((ms.take cut ++ [(pk, ps, pe)]) ++ (ms.drop cut).take q) ++ [(mk, mst, men)]
                rw [ht, List.append_assoc (ms.take cut ++ [(pk, ps, pe)])]
              have HO : Hid (Obj5 wr (w2.heap.size + 1) le nl ind un ((ms.take cut ++ [(pk, ps, pe)]) ++ (ms.drop cut).take q) ao3 L c3) := hob
              have HS3 : w2.heap.size + 1 < wr.heap.size := hob.lt
              have hLq : L ≤ 1048576 := by have := hkq.out; omega
              obtain ⟨own, p0, p1, p2, p3, p4, f⟩ := hob
              clear ht own f harg2 bw hob1 hput2 HR HR2 d0 d1 d2 d3 d4 g0 g1 g2 g3 g4
              go_wp2
              go_still_tail 16, (by kernel_rfl)
              rw [show ({ heap := wr.heap, tape := wr.tape, drawn := wr.drawn + 1, os := wr.os, output := wr.output } : World) = wr.drew from rfl]
              go_wp2_with fail
              refine (f10_any ao3 L c3 le nl ind un mk mst men (w2.heap.size + 1 + 1) (mcells ((ms.take cut ++ [(pk, ps, pe)]) ++ (ms.drop cut).take q)) _ HO.out.own.drew (by simp; omega) hLq).mono ?_
              rintro e w5 ⟨g', c5, rfl, hown', hb'⟩
              have R := obj_step HO.out hown' hb' _ HT.out
              obtain ⟨d0, d1, d2, d3, d4, g0, g1, g2, g3, g4⟩ := obj_after HO.out hb'
              have HR : Hid _ := R.1
              have HR2 := R.2 w2 w2.heap.size (Nat.le_succ _) hbel
              clear R hown' hb' p0 p1 p2 p3 p4 x0 x1 x2 HO HT
              go_wp2
              go_roundw
              case rel => exact ⟨k + 1, q + 1, L + 1, _, c5, by omega, (by have := hkq.out; exact (by omega : k + 1 = cut + (q + 1) ∧ L + 1 = cut + 1 + (q + 1))), by go_num, HR.out, HR2⟩
              case measure => simp [intOf]; omega
            · have hq : q = n - cut := by have := hkq.out; omega
              have htake : (ms.drop cut).take q = ms.drop cut := List.take_of_length_le (by have := HL.out; simp; omega)
              rw [htake] at hob
              have bw3 : Below w.heap.size w wr := bw.trans (hbel.mono bw.size)
              have harg4 := harg2.below hbel
              have hput4 := hput2.below hbel
              have o1 := hob1.below hbel
              have hLn : L ≤ 1048576 := by have := hkq.out; omega
              clear bw harg2 hput2 hob1 hbel htake hq hkq HR HR2 d0 d1 d2 d3 d4 g0 g1 g2 g3 g4
              obtain ⟨w5, rfl⟩ : ∃ w5 : World, w5 = wr := ⟨_, rfl⟩
              have HO1 : Hid (Obj5 w5 (w1.heap.size + 1) le nl ind un ms ao n c) := o1
              have HO2 : Hid (Obj5 w5 (w2.heap.size + 1) le nl ind un ((ms.take cut ++ [(pk, ps, pe)]) ++ ms.drop cut) ao3 L c3) := hob
              have hfin := fin4 ms cut key pk ps pe
              obtain ⟨_, p0, p1, p2, p3, p4, _⟩ := o1
              clear hob
              go_wp2_with fail
              refine (f11_any ao n c _ le nl ind un key ms w5 (by omega) HO1.out.own).mono ?_
              rintro e w6 ⟨rfl, b6⟩
              generalize mkey (ms.find? (hit key)) = bk at hfin ⊢
              generalize mst (ms.find? (hit key)) = bs at hfin ⊢
              generalize men (ms.find? (hit key)) = be at hfin ⊢
              generalize (ms.find? (hit key)).isSome = bok at hfin ⊢
              have B6 : Below w.heap.size w w6 := bw3.trans (b6.mono bw3.size)
              have harg6 := harg4.below b6
              have hput6 := hput4.below b6
              have HO2' : Hid (Obj5 w6 (w2.heap.size + 1) le nl ind un ((ms.take cut ++ [(pk, ps, pe)]) ++ ms.drop cut) ao3 L c3) := HO2.out.below b6
              clear bw3 harg4 hput4 HO1 HO2 b6 p0 p1 p2 p3 p4
              obtain ⟨_, p0, p1, p2, p3, p4, _⟩ := HO2'.out
              go_wp2_with fail
              refine (f11_any ao3 L c3 _ le nl ind un key ((ms.take cut ++ [(pk, ps, pe)]) ++ ms.drop cut) w6 hLn HO2'.out.own).mono ?_
              rintro e w7 ⟨rfl, b7⟩
              generalize mkey (((ms.take cut ++ [(pk, ps, pe)]) ++ ms.drop cut).find? (hit key)) = ak at hfin ⊢
              generalize mst (((ms.take cut ++ [(pk, ps, pe)]) ++ ms.drop cut).find? (hit key)) = aS at hfin ⊢
              generalize men (((ms.take cut ++ [(pk, ps, pe)]) ++ ms.drop cut).find? (hit key)) = ae at hfin ⊢
              generalize (((ms.take cut ++ [(pk, ps, pe)]) ++ ms.drop cut).find? (hit key)).isSome = aok at hfin ⊢
              have B7 : Below w.heap.size w w7 := B6.trans (b7.mono B6.size)
              have harg7 := harg6.below b7
              obtain ⟨pc0, pc1, pc2⟩ := hput6.below b7
              clear B6 harg6 hput6 HO2' b7 p0 p1 p2 p3 p4
              have HF : Hid (Fin4 key pk ps pe bk ak bs be aS ae bok aok (anyK (hit key) ms cut)) := hfin
              clear hfin
              go_wp2
              go_loop [30, 31] (fun p i => ∃ k : Nat, k ≤ cut ∧ i = .int .i64 k ∧ p = .bool (anyK (hit key) ms k)) (fun _ i => cut - (intOf i).toNat)
              case atStart => exact ⟨0, Nat.zero_le _, rfl, rfl⟩
              case round =>
                obtain ⟨k4, hk4, rfl, rfl⟩ := hrel
                by_cases hlt4 : k4 < cut
                · have hlt4n : k4 < n := by omega
                  have hlt4' : (k4 : Int) < (n : Int) := by omega
                  obtain ⟨b, off, ha, x0, x1, x2⟩ := harg7.at hlt4n
                  subst ha
                  have e1 := anyK_succ ms k4 (by have := HL.out; omega) (hit key)
                  generalize ms.getD k4 m0 = m at x0 x1 x2 e1
                  obtain ⟨mk, mst, men⟩ := m
                  dsimp only at x0 x1 x2
                  have P1 : Hid (anyK (hit key) ms (k4 + 1) = (anyK (hit key) ms k4 || hit key (mk, mst, men))) := e1
                  clear e1 harg7 B7
                  cases hx : (mk.toList == key.toList)
                  · go_wp2
                    go_round
                    case rel => exact ⟨k4 + 1, by omega, by go_num, by rw [P1.out]; simp [hit, hx]⟩
                    case measure => simp [intOf]; omega
                  · go_wp2
                    go_round
                    case rel => exact ⟨k4 + 1, by omega, by go_num, by rw [P1.out]; simp [hit, hx]⟩
                    case measure => simp [intOf]; omega
                · obtain rfl : k4 = cut := by omega
                  rcases HF.out.out with ⟨q1, q2, rfl, rfl, rfl, rfl⟩ | ⟨q1, rfl, rfl, rfl, rfl⟩ | ⟨q1, q2, rfl, rfl, rfl, rfl⟩
                  · clear HF
                    go_wp2
                    go_ret
                    exact ⟨rfl, B7⟩
                  · clear HF
                    go_wp2
                    go_ret
                    exact ⟨rfl, B7⟩
                  · clear HF
                    go_wp2
                    go_ret
                    exact ⟨rfl, B7⟩
end Go.Proofs.Qxb6612677a
