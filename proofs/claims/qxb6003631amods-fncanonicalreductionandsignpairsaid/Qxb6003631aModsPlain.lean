import Derived.Test.Qxb6003631aModsCanon
import Derived.Test.Qxb6003631aModsAdd
namespace Go.Proofs.Qxb6003631aMods

def gB (s : Nat → Int) : Bool := s 31 / 128 * 128 != 0
def oneB (s : Nat → Int) (k : Nat) : Bool := s 0 == 20 && (List.range k).all fun i => s (1 + i) == 0
def minB (s : Nat → Int) (k : Nat) : Bool := s 31 == 127 && (List.range k).all fun i => s i == 255

theorem oneB_succ (s : Nat → Int) (k : Nat) : oneB s (k + 1) = (oneB s k && s (1 + k) == 0) := by
  unfold oneB
  rw [List.range_succ, List.all_append]
  simp [Bool.and_assoc]
theorem minB_succ (s : Nat → Int) (k : Nat) : minB s (k + 1) = (minB s k && s k == 255) := by
  unfold minB
  rw [List.range_succ, List.all_append]
  simp [Bool.and_assoc]

theorem all_iff (k : Nat) (p : Nat → Bool) : (List.range k).all p = true ↔ ∀ i, i < k → p i = true := by
  rw [List.all_eq_true]
  constructor
  · intro h i hi; exact h i (List.mem_range.2 hi)
  · intro h i hi; exact h i (List.mem_range.1 hi)


/-- The carry into place k + 1: the first byte is 237 or more, all between are 255. -/
theorem cy_chain (z : Nat → Int) (hz : ∀ i, 0 ≤ z i ∧ z i ≤ 255) : ∀ k, cy z (k + 1) = if 237 ≤ z 0 ∧ ∀ i, i < k → z (1 + i) = 255 then 1 else 0
  | 0 => by
    have h0 := hz 0
    simp only [cy]
    by_cases h : 237 ≤ z 0
    · simp [h]; omega
    · simp [h]; omega
  | k + 1 => by
    have ih := cy_chain z hz k
    have hk := hz (k + 1)
    have e : cy z (k + 1 + 1) = (z (k + 1) + cy z (k + 1)) / 256 := rfl
    rw [e, ih]
    by_cases h : 237 ≤ z 0 ∧ ∀ i, i < k → z (1 + i) = 255
    · rw [if_pos h]
      by_cases h2 : z (k + 1) = 255
      · have : 237 ≤ z 0 ∧ ∀ i, i < k + 1 → z (1 + i) = 255 := ⟨h.1, fun i hi => by
          by_cases q : i = k
          · subst q; rw [Nat.add_comm]; exact h2
          · exact h.2 i (by omega)⟩
        rw [if_pos this, h2]; decide
      · have : ¬ (237 ≤ z 0 ∧ ∀ i, i < k + 1 → z (1 + i) = 255) := fun q => h2 (by have := q.2 k (by omega); rwa [Nat.add_comm] at this)
        rw [if_neg this]; omega
    · have : ¬ (237 ≤ z 0 ∧ ∀ i, i < k + 1 → z (1 + i) = 255) := fun q => h ⟨q.1, fun i hi => q.2 i (by omega)⟩
      rw [if_neg h, if_neg this]; omega

theorem high_is (z : Nat → Int) (hz : ∀ i, 0 ≤ z i ∧ z i ≤ 255) (h31 : z 31 ≤ 127) : hiB z 30 = gB (sm z) := by
  have hc := cy_chain z hz 30
  have h0 := hz 31
  have hs : sm z 31 = (z 31 + cy z 31) % 256 := rfl
  rw [Bool.eq_iff_iff]
  unfold hiB gB
  rw [hs, hc]
  simp only [Bool.and_eq_true, all_iff, beq_iff_eq, decide_eq_true_eq, bne_iff_ne]
  by_cases h : 237 ≤ z 0 ∧ ∀ i, i < 30 → z (1 + i) = 255
  · rw [if_pos h]
    constructor
    · rintro ⟨⟨h1, _⟩, _⟩; omega
    · intro h1; exact ⟨⟨by omega, h.1⟩, h.2⟩
  · rw [if_neg h]
    constructor
    · rintro ⟨⟨h1, h2⟩, h3⟩; exact absurd ⟨h2, h3⟩ h
    · intro h1; omega

/-- Without a first carry there is none. -/
theorem no_carry (z : Nat → Int) (hz : ∀ i, 0 ≤ z i ∧ z i ≤ 255) (h : z 0 < 237) (k : Nat) : cy z (k + 1) = 0 := by
  rw [cy_chain z hz k, if_neg (fun q => by omega)]

theorem sm_plain (z : Nat → Int) (hz : ∀ i, 0 ≤ z i ∧ z i ≤ 255) (h : z 0 < 237) (k : Nat) : sm z (k + 1) = z (k + 1) := by
  have := hz (k + 1)
  unfold sm
  rw [no_carry z hz h k]
  omega

theorem eq32_iff (z a : Nat → Int) : eq32 z a = true ↔ ∀ i, i < 32 → z i = a i := by
  unfold eq32
  rw [all_iff]
  simp

theorem one_is_one (z : Nat → Int) (hz : ∀ i, 0 ≤ z i ∧ z i ≤ 255) : eq32 z oneF = oneB (sm z) 31 := by
  have h0 := hz 0
  have hs0 : sm z 0 = (z 0 + 19) % 256 := rfl
  rw [Bool.eq_iff_iff, eq32_iff z _]
  unfold oneB
  simp only [Bool.and_eq_true, all_iff, beq_iff_eq]
  constructor
  · intro h
    have e0 : z 0 = 1 := h 0 (by omega)
    refine ⟨by rw [hs0, e0]; decide, fun i hi => ?_⟩
    rw [Nat.add_comm, sm_plain z hz (by omega) i]
    have := h (i + 1) (by omega)
    simpa [oneF] using this
  · rintro ⟨h1, h2⟩ i hi
    have e0 : z 0 = 1 := by rw [hs0] at h1; omega
    match i with
    | 0 => exact e0
    | i + 1 =>
      have := h2 i (by omega)
      rw [Nat.add_comm, sm_plain z hz (by omega) i] at this
      simpa [oneF] using this

theorem minus_is_minus (z : Nat → Int) (hz : ∀ i, 0 ≤ z i ∧ z i ≤ 255) : eq32 z (mF 31) = minB (sm z) 31 := by
  have h0 := hz 0
  have hs0 : sm z 0 = (z 0 + 19) % 256 := rfl
  rw [Bool.eq_iff_iff, eq32_iff z _]
  unfold minB
  simp only [Bool.and_eq_true, all_iff, beq_iff_eq]
  constructor
  · intro h
    have e0 : z 0 = 236 := h 0 (by omega)
    refine ⟨?_, fun i hi => ?_⟩
    · rw [sm_plain z hz (by omega) 30]
      exact h 31 (by omega)
    · match i with
      | 0 => rw [hs0, e0]; decide
      | i + 1 =>
        rw [sm_plain z hz (by omega) i]
        have := h (i + 1) (by omega)
        have h1 : ¬ i = 30 := by omega
        have h2 : i + 1 < 31 := by omega
        simpa [mF, h1, h2] using this
  · rintro ⟨h1, h2⟩ i hi
    have e0 : z 0 = 236 := by
      have := h2 0 (by omega)
      rw [hs0] at this; omega
    match i with
    | 0 => exact e0
    | i + 1 =>
      by_cases h30 : i = 30
      · subst h30
        rw [sm_plain z hz (by omega) 30] at h1
        exact h1
      · have := h2 (i + 1) (by omega)
        rw [sm_plain z hz (by omega) i] at this
        have h2 : i + 1 < 31 := by omega
        simpa [mF, h30, h2] using this

theorem low_bd (y : Nat → Int) (hy : ∀ i, 0 ≤ y i ∧ y i ≤ 255) : (∀ i, 0 ≤ low y i ∧ low y i ≤ 255) ∧ low y 31 ≤ 127 := by
  constructor
  · intro i
    have h1 := hy i
    have h2 := hy 31
    unfold low
    split <;> omega
  · have := hy 31
    simp only [low, if_true]
    omega

theorem sm_bd (z : Nat → Int) (k : Nat) : 0 ≤ sm z k ∧ sm z k ≤ 255 := by unfold sm; omega

/-- The first law's plain core. -/
theorem canon_carry (y : Nat → Int) (hy : ∀ i, 0 ≤ y i ∧ y i ≤ 255) :
    canonB y = (!gB (sm (low y)) && (y 31 / 128 == 0 || !(oneB (sm (low y)) 31 || minB (sm (low y)) 31))) := by
  obtain ⟨h1, h2⟩ := low_bd y hy
  unfold canonB
  rw [high_is (low y) h1 h2, one_is_one (low y) h1, minus_is_minus (low y) h1, Bool.not_or]

/-- The numbers of the second law. -/
def hiF (z : Nat → Int) : Nat → Int := fun i => if i = 31 then z 31 + 128 else z i
def redF (s : Nat → Int) : Nat → Int := fun i => if i = 31 then s 31 % 128 else s i

theorem low_low (z : Nat → Int) (h0 : 0 ≤ z 31) (h : z 31 ≤ 127) : low z = z := by
  funext i
  unfold low
  split
  · rename_i e; subst e; omega
  · rfl
theorem low_hi (z : Nat → Int) (h0 : 0 ≤ z 31) (h : z 31 ≤ 127) : low (hiF z) = z := by
  funext i
  unfold low hiF
  split
  · rename_i e; subst e; simp; omega
  · rename_i e; simp

theorem canon_lo (z : Nat → Int) (hz : ∀ i, 0 ≤ z i ∧ z i ≤ 255) (h : z 31 ≤ 127) : canonB z = !gB (sm z) := by
  have h0 := hz 31
  unfold canonB
  rw [low_low z h0.1 h, high_is z hz h]
  have : z 31 / 128 = 0 := by omega
  rw [this]
  simp
theorem canon_hi (z : Nat → Int) (hz : ∀ i, 0 ≤ z i ∧ z i ≤ 255) (h : z 31 ≤ 127) : canonB (hiF z) = (!gB (sm z) && (!eq32 z oneF && !eq32 z (mF 31))) := by
  have h0 := hz 31
  unfold canonB
  rw [low_hi z h0.1 h, high_is z hz h]
  have : hiF z 31 / 128 = 1 := by simp only [hiF, if_true]; omega
  rw [this]
  simp
theorem canon_red (z : Nat → Int) (hz : ∀ i, 0 ≤ z i ∧ z i ≤ 255) (h : z 31 ≤ 127) (hg : gB (sm z) = true) : canonB (redF (sm z)) = true := by
  have hb : ∀ i, 0 ≤ redF (sm z) i ∧ redF (sm z) i ≤ 255 := by
    intro i
    have h1 := sm_bd z i
    have h2 := sm_bd z 31
    unfold redF
    split <;> omega
  have h31 : redF (sm z) 31 ≤ 127 := by simp only [redF, if_true]; omega
  rw [canon_lo _ hb h31, ← high_is _ hb h31]
  have hh := high_is z hz h
  rw [hg] at hh
  have h0 : 237 ≤ z 0 := by
    unfold hiB at hh
    simp only [Bool.and_eq_true, decide_eq_true_eq] at hh
    exact hh.1.2
  have hz0 := hz 0
  have e0 : redF (sm z) 0 = (z 0 + 19) % 256 := rfl
  have : ¬ 237 ≤ redF (sm z) 0 := by rw [e0]; omega
  simp [hiB, this]
theorem canon_by (y : Nat → Int) (hy : ∀ i, 0 ≤ y i ∧ y i ≤ 255) : canonB y = if y 31 / 128 = 0 then canonB (low y) else canonB (hiF (low y)) := by
  obtain ⟨h1, h2⟩ := low_bd y hy
  have h31 := hy 31
  have h0 := h1 31
  unfold canonB
  rw [low_low (low y) h0.1 h2, low_hi (low y) h0.1 h2]
  have e1 : low y 31 / 128 = 0 := by omega
  have e2 : hiF (low y) 31 / 128 = 1 := by simp only [hiF, if_true]; omega
  rw [e1, e2]
  by_cases e : y 31 / 128 = 0
  · simp [e]
  · have : (y 31 / 128 == 0) = false := beq_eq_false_iff_ne.2 e
    simp [e, this]

end Go.Proofs.Qxb6003631aMods
