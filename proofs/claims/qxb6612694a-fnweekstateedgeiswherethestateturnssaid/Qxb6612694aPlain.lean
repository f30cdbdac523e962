import Derived.Below
namespace Go.Proofs.Qxb6612694a

/-- A calendar's spans, as the law asks them. -/
structure WF (ss es : List Int) (n : Nat) : Prop where
  pos : 0 < n
  lo : ∀ i, i < n → 0 ≤ ss.getD i 0
  hi : ∀ i, i < n → ss.getD i 0 < 10080
  se : ∀ i, i < n → ss.getD i 0 < es.getD i 0
  next : ∀ i, i + 1 < n → es.getD i 0 < ss.getD (i + 1) 0
  last : es.getD (n - 1) 0 < ss.getD 0 0 + 10080

theorem WF.mono {ss es : List Int} {n : Nat} (h : WF ss es n) : ∀ j i, i < j → j < n → es.getD i 0 < ss.getD j 0 := by
  intro j
  induction j with
  | zero => intro i hi _; omega
  | succ j ih =>
    intro i hi hj
    have h1 := h.next j hj
    by_cases e : i = j
    · subst e; exact h1
    · have h2 := ih i (by omega) (by omega)
      have h3 := h.se j (by omega)
      omega

theorem WF.smono {ss es : List Int} {n : Nat} (h : WF ss es n) (j : Nat) (hj : j < n) : ss.getD 0 0 ≤ ss.getD j 0 := by
  by_cases e : j = 0
  · subst e; exact Int.le_refl _
  · have h1 := h.mono j 0 (by omega) hj
    have h2 := h.se 0 h.pos
    omega

theorem WF.emono {ss es : List Int} {n : Nat} (h : WF ss es n) (i j : Nat) (hij : i < j) (hj : j < n) : es.getD i 0 + 2 ≤ es.getD j 0 := by
  have h1 := h.mono j i hij hj
  have h2 := h.se j hj
  omega

theorem WF.elast {ss es : List Int} {n : Nat} (h : WF ss es n) (j : Nat) (hj : j < n) : es.getD j 0 ≤ es.getD (n - 1) 0 := by
  by_cases e : j = n - 1
  · subst e; exact Int.le_refl _
  · have := h.emono j (n - 1) (by omega) (by omega)
    omega

/-- Its ends lie within two weeks. -/
theorem WF.ebound {ss es : List Int} {n : Nat} (h : WF ss es n) (j : Nat) (hj : j < n) : 0 < es.getD j 0 ∧ es.getD j 0 < 20160 := by
  have h1 := h.elast j hj
  have h2 := h.last
  have h3 := h.hi 0 h.pos
  have h4 := h.lo j hj
  have h5 := h.se j hj
  omega

/-- What weekState answers at 'pos'. -/
def WS (ss es : List Int) (n : Nat) (pos : Int) (o : Bool) (ed : Int) : Prop :=
  (o = true ∧ pos < es.getD (n - 1) 0 * 60000000000 - 604800000000000 ∧ ed = es.getD (n - 1) 0 * 60000000000 - 604800000000000) ∨
  (¬ pos < es.getD (n - 1) 0 * 60000000000 - 604800000000000 ∧ ∃ i : Nat, i ≤ n ∧ (∀ j, j < i → es.getD j 0 < pos / 60000000000 + 1) ∧ (∀ j, i ≤ j → j < n → pos / 60000000000 + 1 ≤ es.getD j 0) ∧
    ((i = n ∧ o = false ∧ ed = ss.getD 0 0 * 60000000000 + 604800000000000) ∨ (i < n ∧ pos < ss.getD i 0 * 60000000000 ∧ o = false ∧ ed = ss.getD i 0 * 60000000000) ∨
      (i < n ∧ ¬ pos < ss.getD i 0 * 60000000000 ∧ o = true ∧ ed = es.getD i 0 * 60000000000)))

theorem opens_at {ss es : List Int} {n : Nat} (h : WF ss es n) {k : Nat} (hk : k < n) {o : Bool} {ed : Int} (w : WS ss es n (ss.getD k 0 * 60000000000) o ed) : o = true ∧ ed = es.getD k 0 * 60000000000 := by
  have hl := h.last
  have h0 := h.smono k hk
  have hse := h.se k hk
  rcases w with ⟨_, hp, _⟩ | ⟨_, i, hi, hlo, hhi, hc⟩
  · omega
  · have e : i = k := by
      rcases Nat.lt_trichotomy i k with hlt | he | hgt
      · have a := hhi i (Nat.le_refl _) (by omega)
        have b := h.mono k i hlt hk
        omega
      · exact he
      · have a := hlo k hgt
        omega
    subst e
    rcases hc with ⟨rfl, _⟩ | ⟨_, hp, _⟩ | ⟨_, _, rfl, rfl⟩
    · omega
    · omega
    · exact ⟨rfl, rfl⟩

theorem closed_before {ss es : List Int} {n : Nat} (h : WF ss es n) {k : Nat} (hk : k < n) (hp : 0 < ss.getD k 0) {o : Bool} {ed : Int} (w : WS ss es n (ss.getD k 0 * 60000000000 - 1) o ed) : o = false ∧ ed = ss.getD k 0 * 60000000000 := by
  have hl := h.last
  have h0 := h.smono k hk
  have hse := h.se k hk
  rcases w with ⟨_, hp, _⟩ | ⟨_, i, hi, hlo, hhi, hc⟩
  · omega
  · have e : i = k := by
      rcases Nat.lt_trichotomy i k with hlt | he | hgt
      · have a := hhi i (Nat.le_refl _) (by omega)
        have b := h.mono k i hlt hk
        omega
      · exact he
      · have a := hlo k hgt
        omega
    subst e
    rcases hc with ⟨rfl, _⟩ | ⟨_, hp, rfl, rfl⟩ | ⟨_, hp, _, _⟩
    · omega
    · exact ⟨rfl, rfl⟩
    · omega

/-- The first span starts at 0: the week before ends closed. -/
theorem closed_end {ss es : List Int} {n : Nat} (h : WF ss es n) (hz : ss.getD 0 0 = 0) {o : Bool} {ed : Int} (w : WS ss es n (604800000000000 - 1) o ed) : o = false ∧ ed = 604800000000000 := by
  have hl := h.last
  rcases w with ⟨_, hp, _⟩ | ⟨_, i, hi, hlo, hhi, hc⟩
  · omega
  · have e : i = n := by
      rcases Nat.lt_or_ge i n with hlt | hge
      · have a := hhi i (Nat.le_refl _) hlt
        have b := h.elast i hlt
        omega
      · omega
    subst e
    rcases hc with ⟨_, rfl, rfl⟩ | ⟨hc, _⟩ | ⟨hc, _⟩
    · exact ⟨rfl, by omega⟩
    · omega
    · omega

theorem WF.zero {ss es : List Int} {n : Nat} (h : WF ss es n) {k : Nat} (hk : k < n) (hz : ss.getD k 0 = 0) : k = 0 := by
  by_cases e : k = 0
  · exact e
  · have a := h.mono k 0 (by omega) hk
    have b := h.se 0 h.pos
    have c := h.lo 0 h.pos
    omega

/-- Is the minute of 'pos' open? -/
def OpenAt (ss es : List Int) (n : Nat) (pos : Int) : Prop := pos / 60000000000 < es.getD (n - 1) 0 - 10080 ∨ ∃ i, i < n ∧ ss.getD i 0 ≤ pos / 60000000000 ∧ pos / 60000000000 < es.getD i 0

theorem ws_open {ss es : List Int} {n : Nat} (h : WF ss es n) {pos : Int} {o : Bool} {ed : Int} (w : WS ss es n pos o ed) : o = true ↔ OpenAt ss es n pos := by
  unfold OpenAt
  rcases w with ⟨rfl, hp, _⟩ | ⟨hp, i, hi, hlo, hhi, hc⟩
  · exact ⟨fun _ => .inl (by omega), fun _ => rfl⟩
  · rcases hc with ⟨rfl, rfl, rfl⟩ | ⟨hin, hq, rfl, rfl⟩ | ⟨hin, hq, rfl, rfl⟩
    · refine ⟨fun h => (by cases h), fun hc => ?_⟩
      rcases hc with hc | ⟨j, hj, h1, h2⟩
      · omega
      · have := hlo j hj; omega
    · refine ⟨fun h => (by cases h), fun hc => ?_⟩
      rcases hc with hc | ⟨j, hj, h1, h2⟩
      · omega
      · by_cases hji : j < i
        · have := hlo j hji; omega
        · by_cases e : j = i
          · subst e; omega
          · have a := h.mono j i (by omega) hj
            have b := h.se i hin
            omega
    · refine ⟨fun _ => .inr ⟨i, hin, by omega, ?_⟩, fun _ => rfl⟩
      have := hhi i (Nat.le_refl _) hin
      omega

theorem ws_edge {ss es : List Int} {n : Nat} (h : WF ss es n) {pos : Int} (h0 : 0 ≤ pos) (h1 : pos < 604800000000000) {o : Bool} {ed : Int} (w : WS ss es n pos o ed) : pos < ed ∧ ed - pos ≤ 604800000000000 ∧ ed % 60000000000 = 0 ∧ 0 < ed ∧ ed < 1209600000000000 := by
  have hl := h.last
  have z0 := h.lo 0 h.pos
  have z1 := h.hi 0 h.pos
  rcases w with ⟨rfl, hp, rfl⟩ | ⟨hp, i, hi, hlo, hhi, hc⟩
  · omega
  · rcases hc with ⟨rfl, rfl, rfl⟩ | ⟨hin, hq, rfl, rfl⟩ | ⟨hin, hq, rfl, rfl⟩
    · have a := hlo 0 h.pos
      have b := h.se 0 h.pos
      omega
    · have a := h.hi i hin
      omega
    · have a := hhi i (Nat.le_refl _) hin
      have b := h.smono i hin
      have c := h.elast i hin
      have d := h.hi i hin
      omega

/-- Just before the edge: the same state, the same edge. -/
theorem ws_before {ss es : List Int} {n : Nat} (h : WF ss es n) {pos : Int} (h0 : 0 ≤ pos) {o : Bool} {ed : Int} (w : WS ss es n pos o ed) {o' : Bool} {ed' : Int} (hb : ed - 1 < 604800000000000) (w' : WS ss es n (ed - 1) o' ed') : o' = o ∧ ed' = ed := by
  have hl := h.last
  have z0 := h.lo 0 h.pos
  have z1 := h.hi 0 h.pos
  rcases w with ⟨rfl, hp, rfl⟩ | ⟨hp, i, hi, hlo, hhi, hc⟩
  · rcases w' with ⟨rfl, _, rfl⟩ | ⟨hq, _⟩
    · exact ⟨rfl, rfl⟩
    · omega
  · rcases hc with ⟨rfl, rfl, rfl⟩ | ⟨hin, hq, rfl, rfl⟩ | ⟨hin, hq, rfl, rfl⟩
    · have hz : ss.getD 0 0 = 0 := by omega
      have r := closed_end h hz (o := o') (ed := ed') (by rw [hz] at w'; simpa using w')
      exact ⟨r.1, by rw [r.2, hz]; simp⟩
    · exact closed_before h hin (by omega) w'
    · have b := h.smono i hin
      have c := h.se i hin
      rcases w' with ⟨_, hp', _⟩ | ⟨hp', i', hi', hlo', hhi', hc'⟩
      · omega
      · have e : i' = i := by
          rcases Nat.lt_trichotomy i' i with hlt | he | hgt
          · have a := hhi' i' (Nat.le_refl _) (by omega)
            have b := h.emono i' i hlt hin
            omega
          · exact he
          · have a := hlo' i hgt
            omega
        subst e
        rcases hc' with ⟨rfl, _⟩ | ⟨_, hq', _⟩ | ⟨_, _, rfl, rfl⟩
        · omega
        · omega
        · exact ⟨rfl, rfl⟩

theorem ws_before_wrap {ss es : List Int} {n : Nat} (h : WF ss es n) {pos : Int} {o : Bool} {ed : Int} (w : WS ss es n pos o ed) {o' : Bool} {ed' : Int} (hb : 604800000000000 ≤ ed - 1) (w' : WS ss es n (ed - 1 - 604800000000000) o' ed') : o' = o ∧ ed' = ed - 604800000000000 := by
  have hl := h.last
  have z0 := h.lo 0 h.pos
  have z1 := h.hi 0 h.pos
  rcases w with ⟨rfl, hp, rfl⟩ | ⟨hp, i, hi, hlo, hhi, hc⟩
  · omega
  · rcases hc with ⟨rfl, rfl, rfl⟩ | ⟨hin, hq, rfl, rfl⟩ | ⟨hin, hq, rfl, rfl⟩
    · have r := closed_before h h.pos (by omega) (o := o') (ed := ed') (by
        have e : ss.getD 0 0 * 60000000000 + 604800000000000 - 1 - 604800000000000 = ss.getD 0 0 * 60000000000 - 1 := by omega
        rw [e] at w'; exact w')
      exact ⟨r.1, by rw [r.2]; omega⟩
    · have a := h.hi i hin
      omega
    · have e : i = n - 1 := by
        by_cases e : i = n - 1
        · exact e
        · have a := h.mono (i + 1) i (by omega) (by omega)
          have b := h.hi (i + 1) (by omega)
          omega
      subst e
      rcases w' with ⟨rfl, _, rfl⟩ | ⟨hq, _⟩
      · exact ⟨rfl, rfl⟩
      · omega

/-- The minute at which the last span's tail has ended is closed. -/
theorem closed_tail {ss es : List Int} {n : Nat} (h : WF ss es n) {o : Bool} {ed : Int} (w : WS ss es n (es.getD (n - 1) 0 * 60000000000 - 604800000000000) o ed) : o = false := by
  have hl := h.last
  rcases w with ⟨_, hp, _⟩ | ⟨_, i, hi, hlo, hhi, hc⟩
  · omega
  · have e : i = 0 := by
      by_cases e : i = 0
      · exact e
      · have a := hlo 0 (by omega)
        have b := h.se 0 h.pos
        omega
    subst e
    rcases hc with ⟨_, rfl, _⟩ | ⟨_, _, rfl, _⟩ | ⟨_, hq, _⟩
    · rfl
    · rfl
    · omega

/-- At the edge: the other state. -/
theorem ws_at {ss es : List Int} {n : Nat} (h : WF ss es n) {pos : Int} {o : Bool} {ed : Int} (w : WS ss es n pos o ed) {o' : Bool} {ed' : Int} (hb : ed < 604800000000000) (w' : WS ss es n ed o' ed') : o' = !o := by
  have hl := h.last
  have z0 := h.lo 0 h.pos
  have z1 := h.hi 0 h.pos
  rcases w with ⟨rfl, hp, rfl⟩ | ⟨hp, i, hi, hlo, hhi, hc⟩
  · exact closed_tail h w'
  · rcases hc with ⟨rfl, rfl, rfl⟩ | ⟨hin, hq, rfl, rfl⟩ | ⟨hin, hq, rfl, rfl⟩
    · omega
    · exact (opens_at h hin w').1
    · have b := h.smono i hin
      have c := h.se i hin
      rcases w' with ⟨_, hp', _⟩ | ⟨hp', i', hi', hlo', hhi', hc'⟩
      · omega
      · have e : i' = i + 1 := by
          rcases Nat.lt_trichotomy i' (i + 1) with hlt | he | hgt
          · have a := hhi' i (by omega) hin
            omega
          · exact he
          · have a := hlo' (i + 1) hgt
            have b := h.emono i (i + 1) (by omega) (by omega)
            omega
        subst e
        rcases hc' with ⟨_, rfl, _⟩ | ⟨_, _, rfl, _⟩ | ⟨hin', hq', _⟩
        · rfl
        · rfl
        · have a := h.next i hin'
          omega

theorem ws_at_wrap {ss es : List Int} {n : Nat} (h : WF ss es n) {pos : Int} {o : Bool} {ed : Int} (w : WS ss es n pos o ed) {o' : Bool} {ed' : Int} (hb : 604800000000000 ≤ ed) (w' : WS ss es n (ed - 604800000000000) o' ed') : o' = !o := by
  have hl := h.last
  have z0 := h.lo 0 h.pos
  have z1 := h.hi 0 h.pos
  rcases w with ⟨rfl, hp, rfl⟩ | ⟨hp, i, hi, hlo, hhi, hc⟩
  · omega
  · rcases hc with ⟨rfl, rfl, rfl⟩ | ⟨hin, hq, rfl, rfl⟩ | ⟨hin, hq, rfl, rfl⟩
    · exact (opens_at h h.pos (o := o') (ed := ed') (by
        have e : ss.getD 0 0 * 60000000000 + 604800000000000 - 604800000000000 = ss.getD 0 0 * 60000000000 := by omega
        rw [e] at w'; exact w')).1
    · have a := h.hi i hin
      omega
    · have e : i = n - 1 := by
        by_cases e : i = n - 1
        · exact e
        · have a := h.mono (i + 1) i (by omega) (by omega)
          have b := h.hi (i + 1) (by omega)
          omega
      subst e
      exact closed_tail h w'
end Go.Proofs.Qxb6612694a
