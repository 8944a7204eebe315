import Derived.Test.Qxb6000476aModsPlain
import Derived.Test.Qxb6000476aModsNewT
import Derived.Test.Qxb6000476aModsClone
namespace Go.Proofs.Qxb6000476aMods
open Go.RowKit
set_option linter.unusedVariables false

def intRow (n : Nat) (c : Nat → Int) : Array Value := rowOf n (fun k => .int .i64 (c k))

theorem intRow_get (n : Nat) (c : Nat → Int) (k : Nat) (h : k < n) : (intRow n c)[k]? = some (.int .i64 (c k)) := rowOf_get _ _ _ h
theorem intRow_set (n : Nat) (c : Nat → Int) (k : Nat) (x : Int) : (intRow n c).setIfInBounds k (.int .i64 x) = intRow n (fun j => if j = k then x else c j) := by
  unfold intRow
  rw [rowOf_set]
  apply rowOf_congr
  intro i _
  by_cases e : i = k <;> simp [e]

/-- Three rows of counts, one behind the other. -/
structure Rows3 (X n : Nat) (c a s : Nat → Int) (w : World) : Prop where
  x0 : w.heap[X]? = some (.cells (intRow n c) 3 (0, 0))
  x1 : w.heap[X + 1]? = some (.cells (intRow n a) 3 (0, 0))
  x2 : w.heap[X + 2]? = some (.cells (intRow n s) 3 (0, 0))

theorem p3 : plainE 3 := Or.inl rfl

theorem Rows3.fr {B X n : Nat} {c a s : Nat → Int} {w w' : World} (h : Rows3 X n c a s w) (f : Fr B w w') : Rows3 X n c a s w' :=
  ⟨f.plain _ _ _ p3 h.x0, f.plain _ _ _ p3 h.x1, f.plain _ _ _ p3 h.x2⟩

theorem Rows3.bump0 {X n : Nat} {c a s : Nat → Int} {w : World} (h : Rows3 X n c a s w) (k : Nat) (x : Int) : Rows3 X n (fun j => if j = k then x else c j) a s (w.setCell ⟨X, k, none⟩ (.int .i64 x)) := by
  refine ⟨?_, ?_, ?_⟩
  · rw [heap_setCell_at _ _ _ _ _ _ h.x0, intRow_set]
  · rw [Below.heap_setCell _ _ _ _ (by simp)]; exact h.x1
  · rw [Below.heap_setCell _ _ _ _ (by simp)]; exact h.x2
theorem Rows3.bump1 {X n : Nat} {c a s : Nat → Int} {w : World} (h : Rows3 X n c a s w) (k : Nat) (x : Int) : Rows3 X n c (fun j => if j = k then x else a j) s (w.setCell ⟨X + 1, k, none⟩ (.int .i64 x)) := by
  refine ⟨?_, ?_, ?_⟩
  · rw [Below.heap_setCell _ _ _ _ (by simp)]; exact h.x0
  · rw [heap_setCell_at _ _ _ _ _ _ h.x1, intRow_set]
  · rw [Below.heap_setCell _ _ _ _ (by simp)]; exact h.x2
theorem Rows3.bump2 {X n : Nat} {c a s : Nat → Int} {w : World} (h : Rows3 X n c a s w) (k : Nat) (x : Int) : Rows3 X n c a (fun j => if j = k then x else s j) (w.setCell ⟨X + 2, k, none⟩ (.int .i64 x)) := by
  refine ⟨?_, ?_, ?_⟩
  · rw [Below.heap_setCell _ _ _ _ (by simp)]; exact h.x0
  · rw [Below.heap_setCell _ _ _ _ (by simp)]; exact h.x1
  · rw [heap_setCell_at _ _ _ _ _ _ h.x2, intRow_set]
theorem Rows3.congr {X n : Nat} {c a s c' a' s' : Nat → Int} {w : World} (h : Rows3 X n c a s w) (hc : ∀ j, c' j = c j) (ha : ∀ j, a' j = a j) (hs : ∀ j, s' j = s j) : Rows3 X n c' a' s' w := by
  obtain rfl : c' = c := funext hc
  obtain rfl : a' = a := funext ha
  obtain rfl : s' = s := funext hs
  exact h

theorem rows3_made (w : World) (n : Nat) : Rows3 w.heap.size n (fun _ => 0) (fun _ => 0) (fun _ => 0) (((w.alloc (.cells (intRow n fun _ => 0) 3)).alloc (.cells (intRow n fun _ => 0) 3)).alloc (.cells (intRow n fun _ => 0) 3)) := by
  refine ⟨?_, ?_, ?_⟩
  · rw [Below.heap_alloc _ _ _ (by simp; omega), Below.heap_alloc _ _ _ (by simp)]; exact heap_alloc_new _ _
  · rw [Below.heap_alloc _ _ _ (by simp)]
    have := heap_alloc_new (w.alloc (.cells (intRow n fun _ => 0) 3)) (.cells (intRow n fun _ => 0) 3)
    simpa using this
  · have := heap_alloc_new ((w.alloc (.cells (intRow n fun _ => 0) 3)).alloc (.cells (intRow n fun _ => 0) 3)) (.cells (intRow n fun _ => 0) 3)
    simpa using this

/-- The walk's facts of three rows. -/
theorem Rows3.facts {X n : Nat} {c a s : Nat → Int} {w : World} (h : Rows3 X n c a s w) {k : Nat} (hk : k < n) :
    (w.cell? ⟨X, k, none⟩ = some (.int .i64 (c k)) ∧ w.frozen? ⟨X, k, none⟩ = false) ∧ (w.cell? ⟨X + 1, k, none⟩ = some (.int .i64 (a k)) ∧ w.frozen? ⟨X + 1, k, none⟩ = false) ∧ (w.cell? ⟨X + 2, k, none⟩ = some (.int .i64 (s k)) ∧ w.frozen? ⟨X + 2, k, none⟩ = false) :=
  ⟨⟨blk_cell h.x0 (intRow_get _ _ _ hk), blk_free h.x0⟩, ⟨blk_cell h.x1 (intRow_get _ _ _ hk), blk_free h.x1⟩, ⟨blk_cell h.x2 (intRow_get _ _ _ hk), blk_free h.x2⟩⟩

/-- A slice of m cells, or an empty one. -/
def SlA (w : World) (ao : Option Addr) (b m : Nat) (f : Nat → Value) : Prop :=
  0 < m → ao = some ⟨b, 0, none⟩ ∧ b < w.heap.size ∧ ∀ j, j < m → w.cell? ⟨b, j, none⟩ = some (f j)

theorem cC_succ (f : Nat → Int) (kk : Nat → Nat) (i k : Nat) (h : fsB f i = true) : cC f kk (i + 1) k = if k = kk i then cC f kk i (kk i) + 1 else cC f kk i k := by
  unfold cC
  simp only [cnt, h, Bool.true_and, decide_eq_true_eq]
  by_cases e : k = kk i
  · subst e; simp
  · have : ¬ kk i = k := fun q => e q.symm
    simp [e, this]
theorem cC_skip (f : Nat → Int) (kk : Nat → Nat) (i k : Nat) (h : fsB f i = false) : cC f kk (i + 1) k = cC f kk i k := by
  unfold cC; simp [cnt, h]
theorem cA_hit (f : Nat → Int) (kk : Nat → Nat) (q : Nat → Bool) (i k : Nat) (h : fsB f i = true) (hq : q i = true) : cA f kk q (i + 1) k = if k = kk i then cA f kk q i (kk i) + 1 else cA f kk q i k := by
  unfold cA
  simp only [cnt, h, hq, Bool.true_and, Bool.and_true, decide_eq_true_eq]
  by_cases e : k = kk i
  · subst e; simp
  · have : ¬ kk i = k := fun q => e q.symm
    simp [e, this]
theorem cA_miss (f : Nat → Int) (kk : Nat → Nat) (q : Nat → Bool) (i k : Nat) (h : fsB f i = false ∨ q i = false) : cA f kk q (i + 1) k = cA f kk q i k := by
  unfold cA; rcases h with h | h <;> simp [cnt, h]
theorem cN_hit (f : Nat → Int) (kk : Nat → Nat) (lt q : Nat → Bool) (i k : Nat) (h : fsB f i = true) (hq : q i = false) (hl : lt i = true) : cN f kk lt q (i + 1) k = if k = kk i then cN f kk lt q i (kk i) + 1 else cN f kk lt q i k := by
  unfold cN
  simp only [cnt, h, hq, hl, Bool.true_and, Bool.and_true, Bool.not_false, decide_eq_true_eq]
  by_cases e : k = kk i
  · subst e; simp
  · have : ¬ kk i = k := fun q => e q.symm
    simp [e, this]
theorem cN_miss (f : Nat → Int) (kk : Nat → Nat) (lt q : Nat → Bool) (i k : Nat) (h : fsB f i = false ∨ q i = true ∨ lt i = false) : cN f kk lt q (i + 1) k = cN f kk lt q i k := by
  unfold cN; rcases h with h | h | h <;> simp [cnt, h]

end Go.Proofs.Qxb6000476aMods
