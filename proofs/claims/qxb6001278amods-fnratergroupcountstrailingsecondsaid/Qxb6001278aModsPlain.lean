/- The plain mathematics of a rater's counts: no Go in sight. -/
namespace Go.Proofs.Qxb6001278aMods

/-- One call of group: the first entry of that group is raised, or a new one is laid. -/
def bump : List (Int × Int) → Int → List (Int × Int)
  | [], g => [(g, 1)]
  | (h, p) :: r, g => if h = g then (h, p + 1) :: r else (h, p) :: bump r g

def sumP : List (Int × Int) → Int
  | [] => 0
  | x :: r => x.2 + sumP r

theorem sum_bump (L : List (Int × Int)) (g : Int) : sumP (bump L g) = sumP L + 1 := by
  induction L with
  | nil => rfl
  | cons x r ih =>
    obtain ⟨h, p⟩ := x
    simp only [bump]
    split
    · simp only [sumP]; omega
    · simp only [sumP, ih]; omega

theorem bump_new (L : List (Int × Int)) (g : Int) (h : ∀ x ∈ L, x.1 ≠ g) : bump L g = L ++ [(g, 1)] := by
  induction L with
  | nil => rfl
  | cons x r ih =>
    obtain ⟨k, p⟩ := x
    have h1 : ¬ k = g := h (k, p) (by simp)
    simp only [bump, h1, if_false, List.cons_append]
    rw [ih (fun y hy => h y (by simp [hy]))]

theorem bump_at (L : List (Int × Int)) (g p : Int) (i : Nat) (hi : L[i]? = some (g, p)) (h : ∀ j x, j < i → L[j]? = some x → x.1 ≠ g) : bump L g = L.set i (g, p + 1) := by
  induction L generalizing i with
  | nil => simp at hi
  | cons x r ih =>
    obtain ⟨k, q⟩ := x
    cases i with
    | zero =>
      simp at hi
      obtain ⟨rfl, rfl⟩ := hi
      simp [bump]
    | succ i =>
      have h1 : ¬ k = g := h 0 (k, q) (by omega) (by simp)
      simp only [bump, h1, if_false, List.set_cons_succ]
      rw [ih i (by simpa using hi) (fun j x hj hx => h (j + 1) x (by omega) (by simpa using hx))]

theorem bump_len (L : List (Int × Int)) (g : Int) : (bump L g).length ≤ L.length + 1 := by
  induction L with
  | nil => simp [bump]
  | cons x r ih =>
    obtain ⟨k, p⟩ := x
    simp only [bump]
    split <;> simp <;> omega

theorem bump_bd (L : List (Int × Int)) (g M : Int) (h : ∀ x ∈ L, 1 ≤ x.2 ∧ x.2 ≤ M) (hM : 0 ≤ M) : ∀ x ∈ bump L g, 1 ≤ x.2 ∧ x.2 ≤ M + 1 := by
  induction L with
  | nil => intro x hx; simp [bump] at hx; subst hx; simp; omega
  | cons y r ih =>
    obtain ⟨k, p⟩ := y
    have h0 := h (k, p) (by simp)
    have hr : ∀ x ∈ r, 1 ≤ x.2 ∧ x.2 ≤ M := fun x hx => h x (by simp [hx])
    intro x hx
    simp only [bump] at hx
    split at hx
    · simp at hx
      rcases hx with rfl | hx
      · simp only at h0 ⊢; omega
      · have := hr x hx; omega
    · simp at hx
      rcases hx with rfl | hx
      · simp only at h0 ⊢; omega
      · exact ih hr x hx

/-- No earlier one is the same. -/
def fsB (f : Nat → Int) (i : Nat) : Bool := (List.range i).all fun j => f j != f i

theorem fsB_true {f : Nat → Int} {i : Nat} (h : ∀ j, j < i → f j ≠ f i) : fsB f i = true := by
  unfold fsB
  rw [List.all_eq_true]
  intro j hj
  simpa using h j (List.mem_range.1 hj)
theorem fsB_false {f : Nat → Int} {i j : Nat} (hj : j < i) (h : f j = f i) : fsB f i = false := by
  unfold fsB
  rw [List.all_eq_false]
  exact ⟨j, List.mem_range.2 hj, by simp [h]⟩
theorem fsB_ne {f : Nat → Int} {i j : Nat} (h : fsB f i = true) (hj : j < i) : f j ≠ f i := by
  intro e
  rw [fsB_false hj e] at h
  cases h

/-- How many of the first i are P. -/
def cnt (P : Nat → Bool) : Nat → Int
  | 0 => 0
  | i + 1 => cnt P i + (if P i = true then 1 else 0)

theorem cnt_bd (P : Nat → Bool) : ∀ i, 0 ≤ cnt P i ∧ cnt P i ≤ i
  | 0 => by simp [cnt]
  | i + 1 => by
    have := cnt_bd P i
    simp only [cnt]
    split <;> omega

theorem cnt_congr {P Q : Nat → Bool} : ∀ {m : Nat}, (∀ i, i < m → P i = Q i) → cnt P m = cnt Q m
  | 0, _ => rfl
  | m + 1, h => by
    simp only [cnt]
    rw [cnt_congr (fun i hi => h i (by omega)), h m (by omega)]

theorem cnt_shift (P : Nat → Bool) : ∀ m, cnt P (m + 1) = (if P 0 = true then 1 else 0) + cnt (fun j => P (j + 1)) m
  | 0 => by simp [cnt]
  | m + 1 => by
    have ih := cnt_shift P m
    simp only [cnt] at ih ⊢
    rw [ih]
    omega

theorem cnt_rev : ∀ (m : Nat) (P : Nat → Bool), cnt (fun j => P (m - 1 - j)) m = cnt P m
  | 0, _ => rfl
  | m + 1, P => by
    rw [cnt_shift P m]
    have ih := cnt_rev m (fun j => P (j + 1))
    simp only [cnt]
    rw [← ih]
    have e : cnt (fun j => P (m + 1 - 1 - j)) m = cnt (fun j => P (m - 1 - j + 1)) m := cnt_congr fun j hj => by
      congr 1; omega
    rw [e]
    have h0 : P (m + 1 - 1 - m) = P 0 := by congr 1; omega
    simp only [h0]
    omega

theorem cnt_none : ∀ k, cnt (fun _ => false) k = 0
  | 0 => rfl
  | k + 1 => by simp [cnt, cnt_none k]

theorem cnt_pos {P : Nat → Bool} : ∀ {m j : Nat}, j < m → P j = true → 1 ≤ cnt P m
  | 0, j, h, _ => by omega
  | m + 1, j, h, hp => by
    have hb := cnt_bd P m
    simp only [cnt]
    by_cases e : j = m
    · subst e; simp [hp]; omega
    · have := cnt_pos (P := P) (m := m) (by omega) hp
      split <;> omega

/-- How often g is among the first k. -/
def cntv (h : Nat → Int) (k : Nat) (g : Int) : Int := cnt (fun j => h j == g) k

def firsts (h : Nat → Int) (k : Nat) : List Nat := (List.range k).filter (fsB h)

/-- The counts after k calls: each group once, in order of first appearance. -/
def lst (h : Nat → Int) (k : Nat) : List (Int × Int) := (firsts h k).map fun j => (h j, cntv h k (h j))

theorem firsts_mem {h : Nat → Int} {k j : Nat} : j ∈ firsts h k ↔ j < k ∧ fsB h j = true := by
  simp [firsts]

theorem firsts_succ (h : Nat → Int) (k : Nat) : firsts h (k + 1) = firsts h k ++ (if fsB h k = true then [k] else []) := by
  unfold firsts
  rw [List.range_succ, List.filter_append]
  congr 1
  cases e : fsB h k <;> simp [e]

/-- Every value among the first m has a first place. -/
theorem first_of (f : Nat → Int) (u : Int) : ∀ (m : Nat), (∃ j, j < m ∧ f j = u) → ∃ i, i < m ∧ f i = u ∧ fsB f i = true
  | 0, ⟨j, h, _⟩ => by omega
  | m + 1, ⟨j, h, hj⟩ => by
    by_cases e : ∃ j, j < m ∧ f j = u
    · obtain ⟨i, h1, h2, h3⟩ := first_of f u m e
      exact ⟨i, by omega, h2, h3⟩
    · have : j = m := by
        by_cases q : j < m
        · exact absurd ⟨j, q, hj⟩ e
        · omega
      subst this
      refine ⟨j, by omega, hj, fsB_true ?_⟩
      intro j' hj' q
      exact e ⟨j', hj', by rw [q, hj]⟩

theorem first_unique {f : Nat → Int} {i j : Nat} (hi : fsB f i = true) (hj : fsB f j = true) (e : f i = f j) : i = j := by
  rcases Nat.lt_trichotomy i j with h | h | h
  · rw [fsB_false h e] at hj; cases hj
  · exact h
  · rw [fsB_false h e.symm] at hi; cases hi

/-- Raising in a list of entries with different keys. -/
theorem bump_map (h : Nat → Int) (c : Nat → Int) (g : Int) : ∀ (l : List Nat), l.Nodup → (∀ i ∈ l, ∀ j ∈ l, h i = h j → i = j) → (∃ j ∈ l, h j = g) →
    bump (l.map fun j => (h j, c j)) g = l.map fun j => (h j, c j + if h j = g then 1 else 0)
  | [], _, _, ⟨j, hj, _⟩ => by simp at hj
  | x :: r, hnd, hinj, hex => by
    simp only [List.map_cons, bump]
    have hxr : x ∉ r := (List.nodup_cons.1 hnd).1
    by_cases e : h x = g
    · rw [if_pos e]
      congr 1
      · simp [e]
      · apply List.map_congr_left
        intro j hj
        have : ¬ h j = g := by
          intro q
          have := hinj j (by simp [hj]) x (by simp) (by rw [q, e])
          subst this
          exact hxr hj
        simp [this]
    · rw [if_neg e]
      congr 1
      · simp [e]
      · apply bump_map h c g r (List.nodup_cons.1 hnd).2 (fun i hi j hj => hinj i (by simp [hi]) j (by simp [hj]))
        obtain ⟨j, hj, hg⟩ := hex
        simp at hj
        rcases hj with rfl | hj
        · exact absurd hg e
        · exact ⟨j, hj, hg⟩

theorem firsts_nodup (h : Nat → Int) (k : Nat) : (firsts h k).Nodup := List.nodup_range.sublist List.filter_sublist

theorem lst_succ (h : Nat → Int) (k : Nat) : bump (lst h k) (h k) = lst h (k + 1) := by
  have hinj : ∀ i ∈ firsts h k, ∀ j ∈ firsts h k, h i = h j → i = j := fun i hi j hj e => first_unique (firsts_mem.1 hi).2 (firsts_mem.1 hj).2 e
  cases e : fsB h k with
  | true =>
    have hne : ∀ j, j < k → h j ≠ h k := fun j hj => fsB_ne e hj
    rw [bump_new]
    · unfold lst
      rw [firsts_succ, if_pos e, List.map_append]
      congr 1
      · apply List.map_congr_left
        intro j hj
        have hj' := hne j (firsts_mem.1 hj).1
        have : (h k == h j) = false := beq_eq_false_iff_ne.2 (fun q => hj' q.symm)
        simp [cntv, cnt, this]
      · have h0 : cnt (fun j => h j == h k) k = 0 := by
          have : cnt (fun j => h j == h k) k = cnt (fun _ => false) k := cnt_congr fun j hj => beq_eq_false_iff_ne.2 (hne j hj)
          rw [this, cnt_none]
        simp [cntv, cnt, h0]
    · intro x hx
      unfold lst at hx
      rw [List.mem_map] at hx
      obtain ⟨j, hj, rfl⟩ := hx
      exact hne j (firsts_mem.1 hj).1
  | false =>
    have hex : ∃ j, j < k ∧ h j = h k := by
      refine Classical.byContradiction fun hn => ?_
      rw [fsB_true] at e
      · cases e
      · intro j hj q
        exact hn ⟨j, hj, q⟩
    obtain ⟨i, h1, h2, h3⟩ := first_of h (h k) k hex
    unfold lst
    rw [bump_map h _ (h k) _ (firsts_nodup h k) hinj ⟨i, firsts_mem.2 ⟨h1, h3⟩, h2⟩, firsts_succ, e]
    simp only [Bool.false_eq_true, if_false, List.append_nil]
    apply List.map_congr_left
    intro j hj
    by_cases q : h j = h k
    · simp [cntv, cnt, q]
    · have : (h k == h j) = false := beq_eq_false_iff_ne.2 (fun q' => q q'.symm)
      simp [cntv, cnt, q, this]

theorem lst_sum (h : Nat → Int) : ∀ k, sumP (lst h k) = k
  | 0 => rfl
  | k + 1 => by rw [← lst_succ, sum_bump, lst_sum h k]; omega

theorem lst_len (h : Nat → Int) : ∀ k, (lst h k).length ≤ k
  | 0 => by simp [lst, firsts]
  | k + 1 => by
    have h1 := lst_len h k
    have h2 := bump_len (lst h k) (h k)
    rw [lst_succ] at h2
    omega

theorem lst_mem {h : Nat → Int} {k : Nat} {x : Int × Int} (hx : x ∈ lst h k) : ∃ j, j < k ∧ fsB h j = true ∧ x = (h j, cntv h k (h j)) := by
  unfold lst at hx
  rw [List.mem_map] at hx
  obtain ⟨j, hj, rfl⟩ := hx
  exact ⟨j, (firsts_mem.1 hj).1, (firsts_mem.1 hj).2, rfl⟩

theorem lst_bd (h : Nat → Int) (k : Nat) : ∀ x ∈ lst h k, 1 ≤ x.2 ∧ x.2 ≤ k := by
  intro x hx
  obtain ⟨j, h1, h2, rfl⟩ := lst_mem hx
  refine ⟨cnt_pos h1 (by simp), (cnt_bd _ _).2⟩

/-- Different places bear different groups. -/
theorem lst_keys (h : Nat → Int) (k i j : Nat) (x y : Int × Int) (hi : (lst h k)[i]? = some x) (hj : (lst h k)[j]? = some y) (e : x.1 = y.1) : i = j := by
  unfold lst at hi hj
  rw [List.getElem?_map] at hi hj
  cases hfi : (firsts h k)[i]? with
  | none => rw [hfi] at hi; cases hi
  | some a =>
    cases hfj : (firsts h k)[j]? with
    | none => rw [hfj] at hj; cases hj
    | some b =>
      rw [hfi] at hi
      rw [hfj] at hj
      simp at hi hj
      subst hi hj
      have ha := firsts_mem.1 (List.mem_of_getElem? hfi)
      have hb := firsts_mem.1 (List.mem_of_getElem? hfj)
      have hab : a = b := first_unique ha.2 hb.2 e
      subst hab
      have hil : i < (firsts h k).length := (List.getElem?_eq_some_iff.1 hfi).1
      exact (List.getElem?_inj hil (firsts_nodup h k)).1 (by rw [hfi, hfj])

/-- A list without repeats is no longer than one that holds all of it. -/
theorem len_le : ∀ (l1 l2 : List Int), l1.Nodup → (∀ x ∈ l1, x ∈ l2) → l1.length ≤ l2.length
  | [], _, _, _ => by simp
  | x :: r, l2, hnd, hsub => by
    have hx : x ∈ l2 := hsub x (by simp)
    have hxr : x ∉ r := (List.nodup_cons.1 hnd).1
    have ih := len_le r (l2.erase x) (List.nodup_cons.1 hnd).2 (fun y hy => by
      have hne : y ≠ x := fun e => by subst e; exact hxr hy
      exact (List.mem_erase_of_ne hne).2 (hsub y (by simp [hy])))
    have h1 := List.length_erase_of_mem hx
    have h2 := List.length_pos_of_mem hx
    simp only [List.length_cons]
    omega

def keys (L : List (Int × Int)) : List Int := L.map (·.1)

theorem keys_lst (h : Nat → Int) (k : Nat) : keys (lst h k) = (firsts h k).map h := by
  simp [keys, lst, Function.comp_def]

theorem map_nodup (h : Nat → Int) : ∀ (l : List Nat), l.Nodup → (∀ i ∈ l, ∀ j ∈ l, h i = h j → i = j) → (l.map h).Nodup
  | [], _, _ => by simp
  | x :: r, hnd, hinj => by
    have hxr : x ∉ r := (List.nodup_cons.1 hnd).1
    rw [List.map_cons, List.nodup_cons]
    refine ⟨?_, map_nodup h r (List.nodup_cons.1 hnd).2 (fun i hi j hj => hinj i (by simp [hi]) j (by simp [hj]))⟩
    intro hm
    rw [List.mem_map] at hm
    obtain ⟨j, hj, e⟩ := hm
    have := hinj j (by simp [hj]) x (by simp) e
    subst this
    exact hxr hj

theorem keys_nodup (h : Nat → Int) (k : Nat) : (keys (lst h k)).Nodup := by
  rw [keys_lst]
  exact map_nodup h _ (firsts_nodup h k) (fun i hi j hj e => first_unique (firsts_mem.1 hi).2 (firsts_mem.1 hj).2 e)

theorem keys_mem (h : Nat → Int) (k : Nat) (g : Int) : g ∈ keys (lst h k) ↔ ∃ j, j < k ∧ h j = g := by
  rw [keys_lst, List.mem_map]
  constructor
  · rintro ⟨j, hj, e⟩
    exact ⟨j, (firsts_mem.1 hj).1, e⟩
  · intro hex
    obtain ⟨i, h1, h2, h3⟩ := first_of h g k hex
    exact ⟨i, firsts_mem.2 ⟨h1, h3⟩, h2⟩

/-- The calls in the opposite order. -/
def revf (h : Nat → Int) (m : Nat) : Nat → Int := fun j => h (m - 1 - j)

theorem cntv_rev (h : Nat → Int) (m : Nat) (g : Int) : cntv (revf h m) m g = cntv h m g := by
  unfold cntv revf
  exact cnt_rev m (fun j => h j == g)

theorem mem_rev (h : Nat → Int) (m : Nat) (g : Int) : g ∈ keys (lst (revf h m) m) ↔ g ∈ keys (lst h m) := by
  rw [keys_mem, keys_mem]
  constructor
  · rintro ⟨j, hj, e⟩
    exact ⟨m - 1 - j, by omega, e⟩
  · rintro ⟨j, hj, e⟩
    refine ⟨m - 1 - j, by omega, ?_⟩
    unfold revf
    have : m - 1 - (m - 1 - j) = j := by omega
    rw [this]; exact e

theorem len_rev (h : Nat → Int) (m : Nat) : (lst (revf h m) m).length = (lst h m).length := by
  have e1 : (keys (lst (revf h m) m)).length = (lst (revf h m) m).length := by simp [keys]
  have e2 : (keys (lst h m)).length = (lst h m).length := by simp [keys]
  rw [← e1, ← e2]
  apply Nat.le_antisymm
  · exact len_le _ _ (keys_nodup _ _) (fun x hx => (mem_rev h m x).1 hx)
  · exact len_le _ _ (keys_nodup _ _) (fun x hx => (mem_rev h m x).2 hx)

/-- The same group bears the same count. -/
theorem count_rev (h : Nat → Int) (m : Nat) (x y : Int × Int) (hx : x ∈ lst h m) (hy : y ∈ lst (revf h m) m) (e : y.1 = x.1) : y.2 = x.2 := by
  obtain ⟨i, _, _, rfl⟩ := lst_mem hx
  obtain ⟨j, _, _, rfl⟩ := lst_mem hy
  simp only at e ⊢
  rw [e, cntv_rev]

/-- Every group of the one is in the other. -/
theorem found_rev (h : Nat → Int) (m : Nat) (x : Int × Int) (hx : x ∈ lst h m) : ∃ (k : Nat) (y : Int × Int), (lst (revf h m) m)[k]? = some y ∧ y.1 = x.1 := by
  have h1 : x.1 ∈ keys (lst h m) := List.mem_map_of_mem hx
  have h2 := (mem_rev h m x.1).2 h1
  unfold keys at h2
  rw [List.mem_map] at h2
  obtain ⟨y, hy, e⟩ := h2
  obtain ⟨k, hk⟩ := List.getElem?_of_mem hy
  exact ⟨k, y, hk, e⟩

end Go.Proofs.Qxb6001278aMods
