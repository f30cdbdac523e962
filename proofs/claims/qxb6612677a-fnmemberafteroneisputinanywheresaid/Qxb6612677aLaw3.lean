import Derived.Test.Qxb6612677aObj
import Derived.StillTailTactics
namespace Go.Proofs.Qxb6612677a
open Go.RowKit

/-- Does one of the first k members meet p? -/
def anyK (p : M → Bool) (ms : List M) (k : Nat) : Bool := (ms.take k).any p
theorem anyK_succ (ms : List M) (k : Nat) (hk : k < ms.length) (p : M → Bool) : anyK p ms (k + 1) = (anyK p ms k || p (ms.getD k m0)) := by
  unfold anyK
  rw [take_step ms k hk, List.any_append]; simp

/-- Held at (s, e). -/
def held (key : ByteArray) (s e : Int) (m : M) : Bool := hit key m && (m.2.1 == s && m.2.2 == e)

/-- What the law's end asks, of plain data. -/
structure Fin3 (key : ByteArray) (gk hk tk : ByteArray) (gs ge hs he ts te : Int) (gok hok tok pr hd : Bool) : Prop where
  out : (gok = false ∧ pr = false ∧ gk.toList.isEmpty = true ∧ (gs == 0) = true ∧ (ge == 0) = true ∧ hok = false ∧ tok = false) ∨
    (gok = true ∧ pr = true ∧ hd = true ∧ (gk.toList == key.toList) = true ∧ hok = true ∧ hk = gk ∧ hs = gs ∧ he = ge) ∨
    (gok = true ∧ pr = true ∧ hd = true ∧ (gk.toList == key.toList) = true ∧ hok = false ∧ tok = true ∧ tk = gk ∧ ts = gs ∧ te = ge)

theorem empty_text : (mkey none).toList.isEmpty = true := by
  show (ByteArray.mk ([] : List UInt8).toArray).toList.isEmpty = true
  rw [ByteArray.toList_mk]; rfl

theorem fin3 (ms : List M) (cut : Nat) (key : ByteArray) : Fin3 key (mkey (ms.find? (hit key))) (mkey ((ms.take cut).find? (hit key))) (mkey ((ms.drop cut).find? (hit key))) (mst (ms.find? (hit key))) (men (ms.find? (hit key)))
    (mst ((ms.take cut).find? (hit key))) (men ((ms.take cut).find? (hit key))) (mst ((ms.drop cut).find? (hit key))) (men ((ms.drop cut).find? (hit key))) (ms.find? (hit key)).isSome ((ms.take cut).find? (hit key)).isSome ((ms.drop cut).find? (hit key)).isSome
    (anyK (hit key) ms ms.length) (anyK (held key (mst (ms.find? (hit key))) (men (ms.find? (hit key)))) ms ms.length) := by
  unfold anyK
  rw [List.take_length]
  have happ : ms.find? (hit key) = ((ms.take cut).find? (hit key)).or ((ms.drop cut).find? (hit key)) := by
    have h := List.find?_append (xs := ms.take cut) (ys := ms.drop cut) (p := hit key)
    rw [List.take_append_drop] at h
    exact h
  have hany : ms.any (hit key) = (ms.find? (hit key)).isSome := by rw [List.isSome_find?]
  constructor
  cases ho : ms.find? (hit key) with
  | none =>
    left
    rw [ho] at happ
    have h2 := (Option.or_eq_none_iff.1 happ.symm)
    rw [h2.1, h2.2, hany, ho]
    exact ⟨rfl, rfl, empty_text, by decide, by decide, rfl, rfl⟩
  | some m =>
    right
    have hm : hit key m = true := List.find?_some ho
    have hmem := List.mem_of_find?_eq_some ho
    have hheld : ms.any (held key (mst (some m)) (men (some m))) = true := List.any_eq_true.2 ⟨m, hmem, by simp [held, hm, mst, men]⟩
    rw [ho] at happ
    cases hh : (ms.take cut).find? (hit key) with
    | some m' =>
      left
      rw [hh] at happ
      simp at happ
      subst happ
      exact ⟨rfl, by rw [hany, ho]; rfl, hheld, hm, rfl, rfl, rfl, rfl⟩
    | none =>
      right
      rw [hh] at happ
      simp at happ
      rw [← happ]
      exact ⟨rfl, by rw [hany, ho]; rfl, hheld, hm, rfl, rfl, rfl, rfl, rfl⟩

set_option maxHeartbeats 8000000 in
set_option maxRecDepth 100000 in
theorem f3_main (a : Option Addr) (n cap cut : Nat) (ms : List M) (le : Int) (nl ind un key : ByteArray) (w : World) (harg : Arg w a n ms)
    (hn : n ≤ 32768) (hcut : cut ≤ n) (h1 : nl.size ≤ maxLen) (h2 : ind.size ≤ maxLen) (h3 : un.size ≤ maxLen) (h4 : key.size ≤ maxLen) :
    Calls Try.prog 3 #[.slice a n cap, .int .i64 le, .string nl, .string ind, .string un, .string key, .int .i64 cut] w fun r w' => r = .returned (.bool true) ∧ Below w.heap.size w w' := by
  have hmx : n ≤ maxLen := by unfold maxLen; omega
  go_enter Try.func3, Try.ntmps3
  go_wp2_with fail
  refine (f7_any _ n cap ms le cut nl ind un key w harg hmx h1 h2 h3 h4).mono ?_
  rintro e w ⟨⟨x, rfl⟩, rfl⟩
  cases x
  · go_wp2
    go_ret
    exact ⟨rfl, Below.refl _ _⟩
  go_wp2_with fail
  refine (f8_any _ n cap ms nl ind un key ⟨#[]⟩ _ harg hmx h1 h2 h3 h4 (Nat.zero_le _)).mono ?_
  rintro e w1 ⟨⟨x, rfl, -⟩, b1⟩
  cases x
  · go_wp2
    go_ret
    exact ⟨rfl, b1⟩
  have harg1 := harg.below b1
  clear h1 h2 h3 h4 hmx harg
  have HL : Hid (ms.length = n) := harg1.1
  go_wp2_with (go_at_call 9; refine (f9_any le nl ind un _).mono ?_; rintro e w2 ⟨rfl, rfl⟩)
  go_loopw [16] (fun i wr => ∃ (k : Nat) (ao : Option Addr) (c : Nat), k ≤ n ∧ i = .int .i64 k ∧ Obj5 wr (w1.heap.size + 1) le nl ind un (ms.take k) ao k c ∧ Below w1.heap.size w1 wr) (fun i _ => n - (intOf i).toNat)
  case atStart => exact ⟨0, none, 0, Nat.zero_le _, rfl, (obj_start w1 le nl ind un).1, (obj_start w1 le nl ind un).2⟩
  case round =>
    obtain ⟨k, ao, c, hkn, rfl, hob, hbel⟩ := hrel
    by_cases hlt : k < n
    · have hlt' : (k : Int) < (n : Int) := by omega
      obtain ⟨b, off, ha, x0, x1, x2⟩ := (harg1.below hbel).at hlt
      subst ha
      have ht := take_step ms k (by have := HL.out; omega)
      generalize ms.getD k m0 = m at x0 x1 x2 ht
      obtain ⟨mk, mst, men⟩ := m
      dsimp only at x0 x1 x2
      have HT : Hid (ms.take (k + 1) = ms.take k ++ [(mk, mst, men)]) := ht
      have HO : Hid (Obj5 wr (w1.heap.size + 1) le nl ind un (ms.take k) ao k c) := hob
      have HS : w1.heap.size + 1 < wr.heap.size := hob.lt
      obtain ⟨own, c0, c1, c2, c3, c4, f⟩ := hob
      clear ht own f harg1 b1
      go_wp2
      go_still_tail 16, (by kernel_rfl)
      rw [show ({ heap := wr.heap, tape := wr.tape, drawn := wr.drawn + 1, os := wr.os, output := wr.output } : World) = wr.drew from rfl]
      go_wp2_with fail
      refine (f10_any ao k c le nl ind un mk mst men (w1.heap.size + 1 + 1) (mcells (ms.take k)) _ HO.out.own.drew (by simp; omega) (by omega)).mono ?_
      rintro e w3 ⟨g, c', rfl, hown', hb'⟩
      have R := obj_step HO.out hown' hb' _ HT.out
      obtain ⟨d0, d1, d2, d3, d4, g0, g1, g2, g3, g4⟩ := obj_after HO.out hb'
      have HR : Hid _ := R.1
      have HR2 := R.2 w1 w1.heap.size (Nat.le_succ _) hbel
      clear R hown' hb' c0 c1 c2 c3 c4 x0 x1 x2 HO HT
      go_wp2
      go_roundw
      case rel => exact ⟨k + 1, _, c', by omega, by go_num, HR.out, HR2⟩
      case measure => simp [intOf]; omega
    · have hkn' : k = n := by omega
      have htake : ms.take k = ms := by rw [hkn']; exact List.take_of_length_le (by have := HL.out; omega)
      rw [htake] at hob
      have hob1 : Obj5 wr (w1.heap.size + 1) le nl ind un ms ao n c := by rw [← hkn']; exact hob
      clear hkn' htake hob
      have bw : Below w.heap.size w wr := b1.trans (hbel.mono b1.size)
      have harg2 := harg1.below hbel
      clear b1 harg1 hbel
      obtain ⟨w2, rfl⟩ : ∃ w2 : World, w2 = wr := ⟨_, rfl⟩
      go_wp2_with (go_at_call 9; refine (f9_any le nl ind un _).mono ?_; rintro e wz ⟨rfl, rfl⟩)
      go_loopw [18] (fun i wr => ∃ (k : Nat) (ao : Option Addr) (c : Nat), k ≤ cut ∧ i = .int .i64 k ∧ Obj5 wr (w2.heap.size + 1) le nl ind un (ms.take k) ao k c ∧ Below w2.heap.size w2 wr) (fun i _ => cut - (intOf i).toNat)
      case atStart => exact ⟨0, none, 0, Nat.zero_le _, rfl, (obj_start w2 le nl ind un).1, (obj_start w2 le nl ind un).2⟩
      case round =>
        obtain ⟨k, ao2, c2, hkn, rfl, hob, hbel⟩ := hrel
        by_cases hlt : k < cut
        · have hltc : (k : Int) < (cut : Int) := by omega
          have hltn : k < n := by omega
          have hlt' : (k : Int) < (n : Int) := by omega
          obtain ⟨b, off, ha, x0, x1, x2⟩ := (harg2.below hbel).at hltn
          subst ha
          have ht := take_step ms k (by have := HL.out; omega)
          generalize ms.getD k m0 = m at x0 x1 x2 ht
          obtain ⟨mk, mst, men⟩ := m
          dsimp only at x0 x1 x2
          have HT : Hid (ms.take (k + 1) = ms.take k ++ [(mk, mst, men)]) := ht
          have HO : Hid (Obj5 wr (w2.heap.size + 1) le nl ind un (ms.take k) ao2 k c2) := hob
          have HS : w2.heap.size + 1 < wr.heap.size := hob.lt
          obtain ⟨own, p0, p1, p2, p3, p4, f⟩ := hob
          clear ht own f harg2 bw hob1
          go_wp2
          go_still_tail 16, (by kernel_rfl)
          rw [show ({ heap := wr.heap, tape := wr.tape, drawn := wr.drawn + 1, os := wr.os, output := wr.output } : World) = wr.drew from rfl]
          go_wp2_with fail
          refine (f10_any ao2 k c2 le nl ind un mk mst men (w2.heap.size + 1 + 1) (mcells (ms.take k)) _ HO.out.own.drew (by simp; omega) (by omega)).mono ?_
          rintro e w3 ⟨g, c', rfl, hown', hb'⟩
          have R := obj_step HO.out hown' hb' _ HT.out
          obtain ⟨d0, d1, d2, d3, d4, g0, g1, g2, g3, g4⟩ := obj_after HO.out hb'
          have HR : Hid _ := R.1
          have HR2 := R.2 w2 w2.heap.size (Nat.le_succ _) hbel
          clear R hown' hb' p0 p1 p2 p3 p4 x0 x1 x2 HO HT
          go_wp2
          go_roundw
          case rel => exact ⟨k + 1, _, c', by omega, by go_num, HR.out, HR2⟩
          case measure => simp [intOf]; omega
        · have hkn' : k = cut := by omega
          have hob2 : Obj5 wr (w2.heap.size + 1) le nl ind un (ms.take cut) ao2 cut c2 := by rw [← hkn']; exact hob
          clear hkn' hob
          have bw2 : Below w.heap.size w wr := bw.trans (hbel.mono bw.size)
          have harg3 := harg2.below hbel
          have hob1' := hob1.below hbel
          clear bw harg2 hob1 hbel
          obtain ⟨w3, rfl⟩ : ∃ w3 : World, w3 = wr := ⟨_, rfl⟩
          go_wp2_with (go_at_call 9; refine (f9_any le nl ind un _).mono ?_; rintro e wz ⟨rfl, rfl⟩)
          go_loopw [20] (fun i wr => ∃ (k q : Nat) (ao : Option Addr) (c : Nat), k ≤ n ∧ Hid (k = cut + q) ∧ i = .int .i64 k ∧ Obj5 wr (w3.heap.size + 1) le nl ind un ((ms.drop cut).take q) ao q c ∧ Below w3.heap.size w3 wr) (fun i _ => n - (intOf i).toNat)
          case atStart => exact ⟨cut, 0, none, 0, hcut, rfl, rfl, (obj_start w3 le nl ind un).1, (obj_start w3 le nl ind un).2⟩
          case round =>
            obtain ⟨k, q, ao3, c3, hkn, hkq, rfl, hob, hbel⟩ := hrel
            by_cases hlt : k < n
            · have hlt' : (k : Int) < (n : Int) := by omega
              obtain ⟨b, off, ha, x0, x1, x2⟩ := (harg3.below hbel).at hlt
              subst ha
              have ht := take_step (ms.drop cut) q (by have := HL.out; have := hkq.out; simp; omega)
              rw [getD_drop, ← hkq.out] at ht
              generalize ms.getD k m0 = m at x0 x1 x2 ht
              obtain ⟨mk, mst, men⟩ := m
              dsimp only at x0 x1 x2
              have HT : Hid ((ms.drop cut).take (q + 1) = (ms.drop cut).take q ++ [(mk, mst, men)]) := ht
              have HO : Hid (Obj5 wr (w3.heap.size + 1) le nl ind un ((ms.drop cut).take q) ao3 q c3) := hob
              have HS : w3.heap.size + 1 < wr.heap.size := hob.lt
              have hq : q ≤ 1048576 := by have := hkq.out; omega
              obtain ⟨own, p0, p1, p2, p3, p4, f⟩ := hob
              clear ht own f harg3 bw2 hob1' hob2
              go_wp2
              go_still_tail 16, (by kernel_rfl)
              rw [show ({ heap := wr.heap, tape := wr.tape, drawn := wr.drawn + 1, os := wr.os, output := wr.output } : World) = wr.drew from rfl]
              go_wp2_with fail
              refine (f10_any ao3 q c3 le nl ind un mk mst men (w3.heap.size + 1 + 1) (mcells ((ms.drop cut).take q)) _ HO.out.own.drew (by simp; omega) hq).mono ?_
              rintro e w4 ⟨g, c', rfl, hown', hb'⟩
              have R := obj_step HO.out hown' hb' _ HT.out
              obtain ⟨d0, d1, d2, d3, d4, g0, g1, g2, g3, g4⟩ := obj_after HO.out hb'
              have HR : Hid _ := R.1
              have HR2 := R.2 w3 w3.heap.size (Nat.le_succ _) hbel
              clear R hown' hb' p0 p1 p2 p3 p4 x0 x1 x2 HO HT
              go_wp2
              go_roundw
              case rel => exact ⟨k + 1, q + 1, _, c', by omega, (by have := hkq.out; exact (by omega : k + 1 = cut + (q + 1))), by go_num, HR.out, HR2⟩
              case measure => simp [intOf]; omega
            · have hq : q = n - cut := by have := hkq.out; omega
              have htake : (ms.drop cut).take q = ms.drop cut := List.take_of_length_le (by have := HL.out; simp; omega)
              rw [htake] at hob
              have bw3 : Below w.heap.size w wr := bw2.trans (hbel.mono bw2.size)
              have harg4 := harg3.below hbel
              have o1 := hob1'.below hbel
              have o2 := hob2.below hbel
              have hqn : q ≤ 1048576 := by omega
              clear bw2 harg3 hob1' hob2 hbel htake hq hkq
              obtain ⟨w4, rfl⟩ : ∃ w4 : World, w4 = wr := ⟨_, rfl⟩
              have HO1 : Hid (Obj5 w4 (w1.heap.size + 1) le nl ind un ms ao n c) := o1
              have HO2 : Hid (Obj5 w4 (w2.heap.size + 1) le nl ind un (ms.take cut) ao2 cut c2) := o2
              have HO3 : Hid (Obj5 w4 (w3.heap.size + 1) le nl ind un (ms.drop cut) ao3 q c3) := hob
              have hfin := fin3 ms cut key
              obtain ⟨_, p0, p1, p2, p3, p4, _⟩ := o1
              clear o2 hob
              go_wp2_with fail
              refine (f11_any ao n c _ le nl ind un key ms w4 (by omega) HO1.out.own).mono ?_
              rintro e w5 ⟨rfl, b5⟩
              generalize mkey (ms.find? (hit key)) = gk at hfin ⊢
              generalize mst (ms.find? (hit key)) = gs at hfin ⊢
              generalize men (ms.find? (hit key)) = ge at hfin ⊢
              generalize (ms.find? (hit key)).isSome = gok at hfin ⊢
              have B5 : Below w.heap.size w w5 := bw3.trans (b5.mono bw3.size)
              have harg5 := harg4.below b5
              have HO2' : Hid (Obj5 w5 (w2.heap.size + 1) le nl ind un (ms.take cut) ao2 cut c2) := HO2.out.below b5
              have HO3' : Hid (Obj5 w5 (w3.heap.size + 1) le nl ind un (ms.drop cut) ao3 q c3) := HO3.out.below b5
              clear bw3 harg4 HO1 HO2 HO3 b5 p0 p1 p2 p3 p4
              obtain ⟨_, p0, p1, p2, p3, p4, _⟩ := HO2'.out
              go_wp2_with fail
              refine (f11_any ao2 cut c2 _ le nl ind un key (ms.take cut) w5 (by omega) HO2'.out.own).mono ?_
              rintro e w6 ⟨rfl, b6⟩
              generalize mkey ((ms.take cut).find? (hit key)) = hk at hfin ⊢
              generalize mst ((ms.take cut).find? (hit key)) = hs at hfin ⊢
              generalize men ((ms.take cut).find? (hit key)) = he at hfin ⊢
              generalize ((ms.take cut).find? (hit key)).isSome = hok at hfin ⊢
              have B6 : Below w.heap.size w w6 := B5.trans (b6.mono B5.size)
              have harg6 := harg5.below b6
              have HO3'' : Hid (Obj5 w6 (w3.heap.size + 1) le nl ind un (ms.drop cut) ao3 q c3) := HO3'.out.below b6
              clear B5 harg5 HO2' HO3' b6 p0 p1 p2 p3 p4
              obtain ⟨_, p0, p1, p2, p3, p4, _⟩ := HO3''.out
              go_wp2_with fail
              refine (f11_any ao3 q c3 _ le nl ind un key (ms.drop cut) w6 hqn HO3''.out.own).mono ?_
              rintro e w7 ⟨rfl, b7⟩
              generalize mkey ((ms.drop cut).find? (hit key)) = tk at hfin ⊢
              generalize mst ((ms.drop cut).find? (hit key)) = ts at hfin ⊢
              generalize men ((ms.drop cut).find? (hit key)) = te at hfin ⊢
              generalize ((ms.drop cut).find? (hit key)).isSome = tok at hfin ⊢
              have B7 : Below w.heap.size w w7 := B6.trans (b7.mono B6.size)
              have harg7 := harg6.below b7
              clear B6 harg6 HO3'' b7 p0 p1 p2 p3 p4
              go_wp2
              rw [HL.out] at hfin
              have HF : Hid (Fin3 key gk hk tk gs ge hs he ts te gok hok tok (anyK (hit key) ms n) (anyK (held key gs ge) ms n)) := hfin
              clear hfin
              go_loop [33, 34, 35] (fun p h i => ∃ k : Nat, k ≤ n ∧ i = .int .i64 k ∧ p = .bool (anyK (hit key) ms k) ∧ h = .bool (anyK (held key gs ge) ms k)) (fun _ _ i => n - (intOf i).toNat)
              case atStart => exact ⟨0, Nat.zero_le _, rfl, rfl, rfl⟩
              case round =>
                obtain ⟨k4, hk4, rfl, rfl, rfl⟩ := hrel
                by_cases hlt4 : k4 < n
                · obtain ⟨b, off, ha, x0, x1, x2⟩ := harg7.at hlt4
                  subst ha
                  have e1 := anyK_succ ms k4 (by have := HL.out; omega) (hit key)
                  have e2 := anyK_succ ms k4 (by have := HL.out; omega) (held key gs ge)
                  generalize ms.getD k4 m0 = m at x0 x1 x2 e1 e2
                  obtain ⟨mk, mst, men⟩ := m
                  dsimp only at x0 x1 x2
                  have P1 : Hid (anyK (hit key) ms (k4 + 1) = (anyK (hit key) ms k4 || hit key (mk, mst, men))) := e1
                  have P2 : Hid (anyK (held key gs ge) ms (k4 + 1) = (anyK (held key gs ge) ms k4 || held key gs ge (mk, mst, men))) := e2
                  clear e1 e2 harg7 B7
                  cases hx : (mk.toList == key.toList)
                  · go_wp2
                    go_round
                    case rel => exact ⟨k4 + 1, by omega, by go_num, by rw [P1.out]; simp [hit, hx], by rw [P2.out]; simp [held, hit, hx]⟩
                    case measure => simp [intOf]; omega
                  · cases hy : (mst == gs)
                    · go_wp2
                      go_round
                      case rel => exact ⟨k4 + 1, by omega, by go_num, by rw [P1.out]; simp [hit, hx], by rw [P2.out]; simp [held, hy]⟩
                      case measure => simp [intOf]; omega
                    · cases hz : (men == ge)
                      · go_wp2
                        go_round
                        case rel => exact ⟨k4 + 1, by omega, by go_num, by rw [P1.out]; simp [hit, hx], by rw [P2.out]; simp [held, hz]⟩
                        case measure => simp [intOf]; omega
                      · go_wp2
                        go_round
                        case rel => exact ⟨k4 + 1, by omega, by go_num, by rw [P1.out]; simp [hit, hx], by rw [P2.out]; simp [held, hit, hx, hy, hz]⟩
                        case measure => simp [intOf]; omega
                · obtain rfl : k4 = n := by omega
                  rcases HF.out.out with ⟨rfl, q2, q3, q4, q5, rfl, rfl⟩ | ⟨rfl, q2, q3, q4, rfl, rfl, rfl, rfl⟩ | ⟨rfl, q2, q3, q4, rfl, rfl, rfl, rfl, rfl⟩
                  · clear HF
                    go_wp2
                    go_ret
                    exact ⟨rfl, B7⟩
                  · clear HF
                    go_wp2
                    go_ret
                    exact ⟨rfl, B7⟩
                  · clear HF
                    go_wp2
                    go_ret
                    exact ⟨rfl, B7⟩
end Go.Proofs.Qxb6612677a
