import Derived.Test.Qxb6600254aModsRows
import Derived.ProofKit
namespace Go.Proofs.Qxb6600254aMods.Facts

theorem words_of (a b : List Char) (L : List (List Char)) (h : L.take 2 = [a, b]) : ∃ r, L = a :: b :: r := by
  match L, h with
  | x :: y :: r, h =>
    simp at h
    exact ⟨r, by rw [h.1, h.2]⟩

theorem make_of {P : Program} {r : List (List Char)} (h : behindMainWord (wordsSigns P.initOrder.toList) = "publicsums".toList :: "cut".toList :: r) : P.make = some (.lifted ["publicsums"]) := by
  unfold Program.make Program.headLifts
  rw [h]
  rfl

theorem lifts_of {P : Program} {r : List (List Char)} (h : behindMainWord (wordsSigns P.initOrder.toList) = "publicsums".toList :: "cut".toList :: r) : P.liftsFinal = false := by
  unfold Program.liftsFinal Program.headLifts
  rw [h]
  rfl

theorem enter_of {P : Program} {r : List (List Char)} (h : behindMainWord (wordsSigns P.initOrder.toList) = "publicsums".toList :: "cut".toList :: r)
    (h1 : (!P.laysLater) = true) (h2 : (!P.bearsReflect) = true) (h3 : P.doorFits ["publicsums"] = true) : P.mayEnter = true := by
  have hs : stripLifts liftWords ("publicsums".toList :: "cut".toList :: r) = (["publicsums"], "cut".toList :: r) := rfl
  unfold Program.mayEnter
  rw [h]
  simp only [hs, h1, h2, h3]
  rfl

/- The dump's head, read by its list of signs: as a string it costs the kernel gigabytes. -/
set_option maxRecDepth 1000000 in
theorem head2 : (behindMainWord (wordsSigns Trym.prog.initOrder.toList)).take 2 = ["publicsums".toList, "cut".toList] := by
  obtain ⟨l, hl, h2⟩ : ∃ l, Trym.prog.initOrder = String.ofList l ∧ (behindMainWord (wordsSigns l)).take 2 = ["publicsums".toList, "cut".toList] := ⟨_, rfl, by kernel_rfl⟩
  rw [hl, String.toList_ofList]; exact h2

theorem words : ∃ r, behindMainWord (wordsSigns Trym.prog.initOrder.toList) = "publicsums".toList :: "cut".toList :: r := words_of _ _ _ head2

theorem make_is : Trym.prog.make = some (.lifted ["publicsums"]) := Exists.elim words fun _ h => make_of h
theorem lifts_is : Trym.prog.liftsFinal = false := Exists.elim words fun _ h => lifts_of h
theorem enter_is : Trym.prog.mayEnter = true := Exists.elim words fun _ h => enter_of h (by kernel_rfl) (by kernel_rfl) (by kernel_rfl)

theorem closedU : joinedFacts Trym.prog 5 Trym.f5 Rows.fnUnderByAncestorsSpec Rows.fnUnderByAncestorsRow = true := by
  unfold joinedFacts
  rw [make_is, lifts_is, enter_is]
  kernel_rfl

end Go.Proofs.Qxb6600254aMods.Facts
