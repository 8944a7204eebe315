import Derived.Test.Qxb6001278aModsOps
namespace Go.Proofs.Qxb6001278aMods

def shf (h : Nat → Int) (a : Nat) : Nat → Int := fun j => h (a + j)

/-- Where the last run of one second begins, among the first i. -/
def stt (sec : Nat → Int) : Nat → Nat
  | 0 => 0
  | i + 1 => if i = 0 then 0 else if sec (i - 1) = sec i then stt sec i else i

def atOf (sec : Nat → Int) (i : Nat) : Int := if i = 0 then 0 else sec (i - 1)

theorem stt_lt (sec : Nat → Int) : ∀ i, 0 < i → stt sec i < i
  | 0, h => by omega
  | i + 1, _ => by
    simp only [stt]
    by_cases h0 : i = 0
    · simp [h0]
    · rw [if_neg h0]
      have := stt_lt sec i (by omega)
      split <;> omega

theorem stt_le (sec : Nat → Int) (i : Nat) : stt sec i ≤ i := by
  by_cases h : 0 < i
  · exact Nat.le_of_lt (stt_lt sec i h)
  · obtain rfl : i = 0 := by omega
    simp [stt]

theorem stt_run (sec : Nat → Int) : ∀ i j, stt sec i ≤ j → j < i → sec j = sec (i - 1)
  | 0, j, _, h => by omega
  | i + 1, j, h1, h2 => by
    by_cases e : j = i
    · subst e; congr 1
    · simp only [stt] at h1
      by_cases h0 : i = 0
      · omega
      · rw [if_neg h0] at h1
        by_cases hs : sec (i - 1) = sec i
        · rw [if_pos hs] at h1
          rw [stt_run sec i j h1 (by omega), hs]
          congr 1
        · rw [if_neg hs] at h1
          omega

theorem stt_edge (sec : Nat → Int) : ∀ i, 0 < stt sec i → sec (stt sec i - 1) ≠ sec (i - 1)
  | 0, h => by simp [stt] at h
  | i + 1, h => by
    simp only [stt] at h ⊢
    by_cases h0 : i = 0
    · simp [h0] at h
    · rw [if_neg h0] at h ⊢
      by_cases hs : sec (i - 1) = sec i
      · rw [if_pos hs] at h ⊢
        have := stt_edge sec i h
        have e : i + 1 - 1 = i := by omega
        rw [e, ← hs]
        exact this
      · rw [if_neg hs]
        have e : i + 1 - 1 = i := by omega
        rw [e]
        exact hs

/-- The counts after i calls. -/
def runL (sec grp : Nat → Int) (i : Nat) : List (Int × Int) := lst (shf grp (stt sec i)) (i - stt sec i)

theorem lst_one (h : Nat → Int) : bump [] (h 0) = lst h 1 := lst_succ h 0

theorem run_step (sec grp : Nat → Int) (i : Nat) : stepL (atOf sec i) (sec i) (runL sec grp i) (grp i) = runL sec grp (i + 1) := by
  unfold stepL
  by_cases h0 : i = 0
  · subst h0
    have e1 : runL sec grp 0 = [] := by simp [runL, lst, firsts, stt]
    have e2 : runL sec grp 1 = lst (shf grp 0) 1 := by simp [runL, stt]
    have e3 : bump [] (grp 0) = lst (shf grp 0) 1 := lst_one (shf grp 0)
    rw [e1, e2]
    split <;> exact e3
  · have hat : atOf sec i = sec (i - 1) := by simp [atOf, h0]
    rw [hat]
    by_cases hs : sec (i - 1) = sec i
    · rw [if_pos hs]
      have hst : stt sec (i + 1) = stt sec i := by simp [stt, h0, hs]
      have hle := stt_le sec i
      have e1 : grp i = shf grp (stt sec i) (i - stt sec i) := by
        unfold shf
        congr 1; omega
      have e2 : i + 1 - stt sec i = (i - stt sec i) + 1 := by omega
      unfold runL
      rw [hst, e2, ← lst_succ, ← e1]
    · rw [if_neg hs]
      have hst : stt sec (i + 1) = i := by simp [stt, h0, hs]
      have e2 : i + 1 - i = 1 := by omega
      unfold runL
      rw [hst, e2]
      exact lst_one (shf grp i)

theorem runL_len (sec grp : Nat → Int) (i : Nat) : (runL sec grp i).length ≤ i := by
  have := lst_len (shf grp (stt sec i)) (i - stt sec i)
  unfold runL
  omega
theorem runL_bd (sec grp : Nat → Int) (i : Nat) : ∀ x ∈ runL sec grp i, 1 ≤ x.2 ∧ x.2 ≤ i := by
  intro x hx
  have := lst_bd (shf grp (stt sec i)) (i - stt sec i) x hx
  omega

theorem firsts_more (h : Nat → Int) (t : Nat) : ∀ K, t ≤ K → ∃ r, firsts h K = firsts h t ++ r
  | 0, hK => by
    obtain rfl : t = 0 := by omega
    exact ⟨[], by simp⟩
  | K + 1, hK => by
    by_cases e : t = K + 1
    · subst e; exact ⟨[], by simp⟩
    · obtain ⟨r, hr⟩ := firsts_more h t K (by omega)
      refine ⟨r ++ (if fsB h K = true then [K] else []), ?_⟩
      rw [firsts_succ, hr, List.append_assoc]

/-- The entry of a first appearance. -/
theorem entry_at (h : Nat → Int) (K t : Nat) (ht : t < K) (hf : fsB h t = true) : (lst h K)[(firsts h t).length]? = some (h t, cntv h K (h t)) := by
  obtain ⟨r, hr⟩ := firsts_more h (t + 1) K (by omega)
  rw [firsts_succ, if_pos hf] at hr
  unfold lst
  rw [hr]
  simp

theorem firsts_hit (h : Nat → Int) (t : Nat) (hf : fsB h t = true) : (firsts h (t + 1)).length = (firsts h t).length + 1 := by
  rw [firsts_succ, if_pos hf]; simp
theorem firsts_miss (h : Nat → Int) (t : Nat) (hf : fsB h t = false) : (firsts h (t + 1)).length = (firsts h t).length := by
  rw [firsts_succ, hf]; simp
theorem lst_length (h : Nat → Int) (K : Nat) : (lst h K).length = (firsts h K).length := by simp [lst]
theorem firsts_len (h : Nat → Int) (t : Nat) : (firsts h t).length ≤ t := by
  rw [← lst_length]; exact lst_len h t

end Go.Proofs.Qxb6001278aMods
