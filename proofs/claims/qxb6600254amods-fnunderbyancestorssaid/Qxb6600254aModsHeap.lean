import Derived.WalkKit
import Derived.Below
namespace Go.Proofs.Qxb6600254aMods
open Go.RowKit

/-- A row of n cells, said by a function. -/
def rowOf (n : Nat) (f : Nat → Value) : Array Value := Array.ofFn (fun i : Fin n => f i)

theorem rowOf_size (n : Nat) (f : Nat → Value) : (rowOf n f).size = n := by simp [rowOf]

theorem rowOf_get (n : Nat) (f : Nat → Value) (i : Nat) (h : i < n) : (rowOf n f)[i]? = some (f i) := by
  simp [rowOf, h]

theorem rowOf_congr {n : Nat} {f g : Nat → Value} (h : ∀ i, i < n → f i = g i) : rowOf n f = rowOf n g := by
  unfold rowOf
  congr 1
  funext i
  exact h i i.2

theorem rowOf_set (n : Nat) (f : Nat → Value) (k : Nat) (v : Value) : (rowOf n f).setIfInBounds k v = rowOf n (fun i => if i = k then v else f i) := by
  apply Array.ext
  · simp [rowOf]
  · intro i h1 h2
    simp [rowOf] at h1
    simp [rowOf, Array.getElem_setIfInBounds, h1]
    by_cases hk : k = i
    · simp [hk]
    · have : ¬ i = k := fun e => hk e.symm
      simp [hk, this]

theorem made_rowOf (z : Value) (n : Nat) : madeCells #[z] n = rowOf n (fun _ => z) := by
  apply Array.ext
  · simp [rowOf, madeCells]
  · intro i h1 h2
    simp [rowOf, madeCells, Nat.mod_one]

end Go.Proofs.Qxb6600254aMods
