import Derived.Test.Qxb6000476aModsAppr
import Derived.Test.Qxb6000476aModsSmall
namespace Go.Proofs.Qxb6000476aMods

/-- How many of the first i are P. -/
def cnt (P : Nat → Bool) : Nat → Int
  | 0 => 0
  | i + 1 => cnt P i + (if P i = true then 1 else 0)

theorem cnt_bd (P : Nat → Bool) : ∀ i, 0 ≤ cnt P i ∧ cnt P i ≤ i
  | 0 => by simp [cnt]
  | i + 1 => by
    have := cnt_bd P i
    simp only [cnt]
    split <;> omega

theorem cnt_congr {P Q : Nat → Bool} : ∀ {m : Nat}, (∀ i, i < m → P i = Q i) → cnt P m = cnt Q m
  | 0, _ => rfl
  | m + 1, h => by
    simp only [cnt]
    rw [cnt_congr (fun i hi => h i (by omega)), h m (by omega)]

theorem cnt_one {P Q : Nat → Bool} {i0 : Nat} : ∀ {m : Nat}, i0 < m → (∀ i, i < m → i ≠ i0 → P i = Q i) → cnt Q m = cnt P m + ((if Q i0 = true then 1 else 0) - (if P i0 = true then 1 else 0))
  | 0, h, _ => by omega
  | m + 1, h, hPQ => by
    simp only [cnt]
    by_cases e : i0 = m
    · subst e
      rw [cnt_congr (P := P) (Q := Q) (fun i hi => hPQ i (by omega) (by omega))]
      omega
    · rw [cnt_one (by omega) (fun i hi hne => hPQ i (by omega) hne), hPQ m (by omega) (fun q => e q.symm)]
      omega

/-- The seated validators after i of them. -/
def seatF (f : Nat → Int) (kk : Nat → Nat) (ap lt : Nat → Bool) : Nat → FT
  | 0 => fun _ => none
  | i + 1 => fun u => if (seatF f kk ap lt i (f i)).isSome = true then seatF f kk ap lt i u else if u = f i then some (some (kk i), ap i, lt i) else seatF f kk ap lt i u

theorem seatF_none (f : Nat → Int) (kk : Nat → Nat) (ap lt : Nat → Bool) : ∀ (i : Nat) (u : Int), (∀ j, j < i → f j ≠ u) → seatF f kk ap lt i u = none
  | 0, _, _ => rfl
  | i + 1, u, h => by
    have h1 := seatF_none f kk ap lt i u (fun j hj => h j (by omega))
    have h2 : ¬ u = f i := fun e => h i (by omega) e.symm
    simp [seatF, h1, h2]

theorem seatF_first (f : Nat → Int) (kk : Nat → Nat) (ap lt : Nat → Bool) : ∀ (i j : Nat), j < i → fsB f j = true → seatF f kk ap lt i (f j) = some (some (kk j), ap j, lt j)
  | 0, j, h, _ => by omega
  | i + 1, j, h, hj => by
    have hall : ∀ j', j' < j → f j' ≠ f j := by
      intro j' hj' e
      rw [fsB_false hj' e] at hj
      cases hj
    by_cases e : j = i
    · subst e
      have h1 := seatF_none f kk ap lt j (f j) hall
      simp [seatF, h1]
    · have h1 := seatF_first f kk ap lt i j (by omega) hj
      by_cases e2 : (seatF f kk ap lt i (f i)).isSome = true
      · simp [seatF, e2, h1]
      · have h3 : ¬ f j = f i := by
          intro q
          rw [← q, h1] at e2
          simp at e2
        simp [seatF, h1, h3]

/-- Every value among the first m has a first place. -/
theorem first_of (f : Nat → Int) (u : Int) : ∀ (m : Nat), (∃ j, j < m ∧ f j = u) → ∃ i, i < m ∧ f i = u ∧ fsB f i = true
  | 0, ⟨j, h, _⟩ => by omega
  | m + 1, ⟨j, h, hj⟩ => by
    by_cases e : ∃ j, j < m ∧ f j = u
    · obtain ⟨i, h1, h2, h3⟩ := first_of f u m e
      exact ⟨i, by omega, h2, h3⟩
    · have : j = m := by
        by_cases q : j < m
        · exact absurd ⟨j, q, hj⟩ e
        · omega
      subst this
      refine ⟨j, by omega, hj, fsB_true ?_⟩
      intro j' hj' q
      exact e ⟨j', hj', by rw [q, hj]⟩

theorem seatF_isSome (f : Nat → Int) (kk : Nat → Nat) (ap lt : Nat → Bool) (i : Nat) : (seatF f kk ap lt i (f i)).isSome = !fsB f i := by
  cases h : fsB f i with
  | true =>
    rw [seatF_none f kk ap lt i (f i)]
    · rfl
    · intro j hj e
      rw [fsB_false hj e] at h
      cases h
  | false =>
    have : ∃ j, j < i ∧ f j = f i := by
      refine Classical.byContradiction fun hn => ?_
      rw [fsB_true] at h
      · cases h
      · intro j hj e
        exact hn ⟨j, hj, e⟩
    obtain ⟨j, h1, h2, h3⟩ := first_of f (f i) i this
    rw [← h2, seatF_first f kk ap lt i j h1 h3]
    rfl

/-- Two first places of one value are one. -/
theorem first_unique {f : Nat → Int} {i j : Nat} (hi : fsB f i = true) (hj : fsB f j = true) (e : f i = f j) : i = j := by
  rcases Nat.lt_trichotomy i j with h | h | h
  · rw [fsB_false h e] at hj; cases hj
  · exact h
  · rw [fsB_false h e.symm] at hi; cases hi

theorem inB_succ (s : Nat → Int) (j : Nat) (u : Int) : inB s (j + 1) u = (inB s j u || s j == u) := by
  unfold inB
  rw [List.range_succ, List.any_append]
  simp

/-- The validators after j approvals. -/
def scrF (F0 : FT) (s : Nat → Int) : Nat → FT
  | 0 => F0
  | j + 1 => apF (scrF F0 s j) (s j)

section
variable (f : Nat → Int) (kk : Nat → Nat) (ap lt : Nat → Bool) (m : Nat) (s : Nat → Int)

def fin (j i : Nat) : Bool := ap i || inB s j (f i)

theorem scr_seat : ∀ (j i : Nat), i < m → fsB f i = true → scrF (seatF f kk ap lt m) s j (f i) = some (some (kk i), fin f ap s j i, lt i)
  | 0, i, hi, hf => by
    simp [scrF, seatF_first f kk ap lt m i hi hf, fin, inB]
  | j + 1, i, hi, hf => by
    have h := scr_seat j i hi hf
    simp only [scrF, apF]
    by_cases e : f i = s j
    · rw [if_pos e, ← e, h]
      simp only [fin, inB_succ]
      simp [e]
    · rw [if_neg e, h]
      have : (s j == f i) = false := beq_eq_false_iff_ne.2 (fun q => e q.symm)
      simp [fin, inB_succ, this]

theorem scr_free (u : Int) (hu : ∀ i, i < m → f i ≠ u) : ∀ j, scrF (seatF f kk ap lt m) s j u = if inB s j u = true then some (none, true, false) else none
  | 0 => by simp [scrF, seatF_none f kk ap lt m u hu, inB]
  | j + 1 => by
    have h := scr_free u hu j
    simp only [scrF, apF]
    by_cases e : u = s j
    · rw [if_pos e, ← e, h]
      have : inB s (j + 1) u = true := by rw [inB_succ]; simp [e]
      rw [if_pos this]
      by_cases q : inB s j u = true <;> simp [q]
    · rw [if_neg e, h]
      have : (s j == u) = false := beq_eq_false_iff_ne.2 (fun q => e q.symm)
      simp [inB_succ, this]

def cC (i k : Nat) : Int := cnt (fun j => fsB f j && decide (kk j = k)) i
def cA (q : Nat → Bool) (i k : Nat) : Int := cnt (fun j => fsB f j && decide (kk j = k) && q j) i
def cN (q : Nat → Bool) (i k : Nat) : Int := cnt (fun j => fsB f j && decide (kk j = k) && (!q j && lt j)) i

theorem fin_succ_other (j i : Nat) (h : f i ≠ s j) : fin f ap s (j + 1) i = fin f ap s j i := by
  have : (s j == f i) = false := beq_eq_false_iff_ne.2 (fun q => h q.symm)
  simp [fin, inB_succ, this]
theorem fin_succ_same (j i : Nat) (h : f i = s j) : fin f ap s (j + 1) i = true := by
  simp [fin, inB_succ, h]

theorem step_A (j k : Nat) : cA f kk (fin f ap s j) m k + hitA (scrF (seatF f kk ap lt m) s j) (s j) k = cA f kk (fin f ap s (j + 1)) m k := by
  by_cases hx : ∃ i, i < m ∧ f i = s j
  · obtain ⟨i0, h1, h2, h3⟩ := first_of f (s j) m hx
    have hF := scr_seat f kk ap lt m s j i0 h1 h3
    rw [h2] at hF
    have hc := cnt_one (P := fun i => fsB f i && decide (kk i = k) && fin f ap s j i) (Q := fun i => fsB f i && decide (kk i = k) && fin f ap s (j + 1) i) h1 (by
      intro i hi hne
      cases hq : fsB f i with
      | false => simp
      | true =>
        have : f i ≠ s j := fun e => hne (first_unique hq h3 (by rw [e, h2]))
        simp [fin_succ_other f ap s j i this])
    unfold cA
    rw [hc, h3, fin_succ_same f ap s j i0 h2]
    congr 1
    simp only [hitA, hF]
    cases hq : fin f ap s j i0 <;> by_cases e : kk i0 = k <;> simp [e]
  · have hu : ∀ i, i < m → f i ≠ s j := fun i hi e => hx ⟨i, hi, e⟩
    have hF := scr_free f kk ap lt m s (s j) hu j
    have h0 : hitA (scrF (seatF f kk ap lt m) s j) (s j) k = 0 := by
      unfold hitA
      rw [hF]
      by_cases q : inB s j (s j) = true <;> simp [q]
    rw [h0, Int.add_zero]
    unfold cA
    apply cnt_congr
    intro i hi
    rw [fin_succ_other f ap s j i (hu i hi)]

theorem step_N (j k : Nat) : cN f kk lt (fin f ap s j) m k - hitN (scrF (seatF f kk ap lt m) s j) (s j) k = cN f kk lt (fin f ap s (j + 1)) m k := by
  by_cases hx : ∃ i, i < m ∧ f i = s j
  · obtain ⟨i0, h1, h2, h3⟩ := first_of f (s j) m hx
    have hF := scr_seat f kk ap lt m s j i0 h1 h3
    rw [h2] at hF
    have hc := cnt_one (P := fun i => fsB f i && decide (kk i = k) && (!fin f ap s j i && lt i)) (Q := fun i => fsB f i && decide (kk i = k) && (!fin f ap s (j + 1) i && lt i)) h1 (by
      intro i hi hne
      cases hq : fsB f i with
      | false => simp
      | true =>
        have : f i ≠ s j := fun e => hne (first_unique hq h3 (by rw [e, h2]))
        simp [fin_succ_other f ap s j i this])
    unfold cN
    rw [hc, h3, fin_succ_same f ap s j i0 h2]
    simp only [hitN, hF]
    cases hq : fin f ap s j i0 <;> cases hl : lt i0 <;> by_cases e : kk i0 = k <;> simp [e] <;> omega
  · have hu : ∀ i, i < m → f i ≠ s j := fun i hi e => hx ⟨i, hi, e⟩
    have hF := scr_free f kk ap lt m s (s j) hu j
    have h0 : hitN (scrF (seatF f kk ap lt m) s j) (s j) k = 0 := by
      unfold hitN
      rw [hF]
      by_cases q : inB s j (s j) = true <;> simp [q]
    rw [h0, Int.sub_zero]
    unfold cN
    apply cnt_congr
    intro i hi
    rw [fin_succ_other f ap s j i (hu i hi)]

theorem ap_seat (j i : Nat) (hi : i < m) (hf : fsB f i = true) : apOf (scrF (seatF f kk ap lt m) s j) (f i) = fin f ap s j i := by
  simp [apOf, scr_seat f kk ap lt m s j i hi hf]

theorem ap_script (L j : Nat) (hj : j < L) : apOf (scrF (seatF f kk ap lt m) s L) (s j) = true := by
  have hin : inB s L (s j) = true := inB_true hj rfl
  by_cases hx : ∃ i, i < m ∧ f i = s j
  · obtain ⟨i0, h1, h2, h3⟩ := first_of f (s j) m hx
    rw [← h2, ap_seat f kk ap lt m s L i0 h1 h3]
    simp [fin, h2, hin]
  · have hu : ∀ i, i < m → f i ≠ s j := fun i hi e => hx ⟨i, hi, e⟩
    simp [apOf, scr_free f kk ap lt m s (s j) hu L, hin]

end
end Go.Proofs.Qxb6000476aMods
