import Derived.Test.Qxb6000476aModsRow3
import Derived.Test.Qxb6000476aModsCloneB
namespace Go.Proofs.Qxb6000476aMods
open Go.RowKit
set_option linter.unusedVariables false

/-- A slice that came in: nil; or its cells, said by a function. -/
def ArgSl (w : World) (a : Option Addr) (len : Nat) (cap : Nat) (f : Nat → Value) : Prop :=
  (a = none ∧ len = 0 ∧ cap = 0) ∨ ∃ x, a = some x ∧ (0 < len → ∃ b off, x = ⟨b, off, none⟩ ∧ b < w.heap.size ∧ ∀ i, i < len → w.cell? ⟨b, off + i, none⟩ = some (f i))

theorem ArgSl.below {w w' : World} {a : Option Addr} {len cap : Nat} {f : Nat → Value} (h : ArgSl w a len cap f) (hb : Below w.heap.size w w') : ArgSl w' a len cap f := by
  rcases h with h | ⟨x, hx, h⟩
  · exact .inl h
  · refine .inr ⟨x, hx, fun hl => ?_⟩
    obtain ⟨b, off, e, hlt, hc⟩ := h hl
    exact ⟨b, off, e, Nat.lt_of_lt_of_le hlt hb.size, fun i hi => (hb.cell (p := ⟨b, off + i, none⟩) hlt).trans (hc i hi)⟩

theorem SlA.below {w w' : World} {ao : Option Addr} {b m : Nat} {f : Nat → Value} (h : SlA w ao b m f) (hb : Below w.heap.size w w') : SlA w' ao b m f := by
  intro hm
  obtain ⟨h1, h2, h3⟩ := h hm
  exact ⟨h1, Nat.lt_of_lt_of_le h2 hb.size, fun j hj => (hb.cell (p := ⟨b, j, none⟩) h2).trans (h3 j hj)⟩

def ClonePost (w : World) (len : Nat) (f : Nat → Value) (e : Ending) (w' : World) : Prop :=
  ∃ ao b cap, e = .returned (.slice ao len cap) ∧ SlA w' ao b len f ∧ Below w.heap.size w w'

theorem clone21_sl (a : Option Addr) (len cap : Nat) (f : Nat → Int) (w : World) (hm : len ≤ 1048576) (h : ArgSl w a len cap (fun i => .int .u32 (f i))) :
    Calls Trym.prog 21 #[.slice a len cap] w fun e w' => ClonePost w len (fun i => .int .u32 (f i)) e w' := by
  rcases h with ⟨rfl, rfl, rfl⟩ | ⟨x, rfl, h⟩
  · refine (clone21_nil w).mono ?_
    rintro e w' ⟨rfl, rfl⟩
    exact ⟨none, 0, 0, rfl, fun h => by omega, Below.refl _ _⟩
  · by_cases h0 : 0 < len
    · obtain ⟨b, off, rfl, hb, hc⟩ := h h0
      refine (clone21_any b off len cap f w hm hb hc).mono ?_
      rintro e w' ⟨rfl, rfl⟩
      exact ⟨_, w.heap.size, len, rfl, fun _ => ⟨rfl, by simp, fun j hj => by rw [World.cell?_alloc_new]; exact rowOf_get _ _ _ hj⟩, (Below.refl _ _).alloc (Nat.le_refl _) _⟩
    · obtain rfl : len = 0 := by omega
      refine (clone21_zero x cap w).mono ?_
      rintro e w' ⟨rfl, rfl⟩
      exact ⟨_, 0, 0, rfl, fun h => by omega, (Below.refl _ _).alloc (Nat.le_refl _) _⟩

theorem clone22_sl (a : Option Addr) (len cap : Nat) (f : Nat → Bool) (w : World) (hm : len ≤ 1048576) (h : ArgSl w a len cap (fun i => .bool (f i))) :
    Calls Trym.prog 22 #[.slice a len cap] w fun e w' => ClonePost w len (fun i => .bool (f i)) e w' := by
  rcases h with ⟨rfl, rfl, rfl⟩ | ⟨x, rfl, h⟩
  · refine (clone22_nil w).mono ?_
    rintro e w' ⟨rfl, rfl⟩
    exact ⟨none, 0, 0, rfl, fun h => by omega, Below.refl _ _⟩
  · by_cases h0 : 0 < len
    · obtain ⟨b, off, rfl, hb, hc⟩ := h h0
      refine (clone22_any b off len cap f w hm hb hc).mono ?_
      rintro e w' ⟨rfl, rfl⟩
      exact ⟨_, w.heap.size, len, rfl, fun _ => ⟨rfl, by simp, fun j hj => by rw [World.cell?_alloc_new]; exact rowOf_get _ _ _ hj⟩, (Below.refl _ _).alloc (Nat.le_refl _) _⟩
    · obtain rfl : len = 0 := by omega
      refine (clone22_zero x cap w).mono ?_
      rintro e w' ⟨rfl, rfl⟩
      exact ⟨_, 0, 0, rfl, fun h => by omega, (Below.refl _ _).alloc (Nat.le_refl _) _⟩

def AnyBool (e : Ending) : Prop := ∃ x, e = .returned (.bool x)

theorem bytes19_any (nT : Int) (a1 a2 a3 a4 a5 : Option Addr) (m1 m2 m3 m4 m5 c1 c2 c3 c4 c5 : Nat) (w : World) :
    Calls Trym.prog 19 #[.int .u8 nT, .slice a1 m1 c1, .slice a2 m2 c2, .slice a3 m3 c3, .slice a4 m4 c4, .slice a5 m5 c5] w fun e w' => AnyBool e ∧ w' = w := by
  by_cases h1 : 1048576 < m1
  · go_enter Trym.func19, Trym.ntmps19
    go_wp2
    go_ret
    exact ⟨⟨_, rfl⟩, rfl⟩
  by_cases h2 : 1048576 < m2
  · go_enter Trym.func19, Trym.ntmps19
    go_wp2
    go_ret
    exact ⟨⟨_, rfl⟩, rfl⟩
  by_cases g2 : 1048576 < m1 + m2
  · go_enter Trym.func19, Trym.ntmps19
    go_wp2
    go_ret
    exact ⟨⟨_, rfl⟩, rfl⟩
  by_cases h3 : 1048576 < m3
  · go_enter Trym.func19, Trym.ntmps19
    go_wp2
    go_ret
    exact ⟨⟨_, rfl⟩, rfl⟩
  by_cases g3 : 1048576 < m1 + m2 + m3
  · go_enter Trym.func19, Trym.ntmps19
    go_wp2
    go_ret
    exact ⟨⟨_, rfl⟩, rfl⟩
  by_cases h4 : 1048576 < m4
  · go_enter Trym.func19, Trym.ntmps19
    go_wp2
    go_ret
    exact ⟨⟨_, rfl⟩, rfl⟩
  by_cases g4 : 1048576 < m1 + m2 + m3 + m4
  · go_enter Trym.func19, Trym.ntmps19
    go_wp2
    go_ret
    exact ⟨⟨_, rfl⟩, rfl⟩
  by_cases h5 : 1048576 < m5
  · go_enter Trym.func19, Trym.ntmps19
    go_wp2
    go_ret
    exact ⟨⟨_, rfl⟩, rfl⟩
  by_cases g5 : 1048576 < m1 + m2 + m3 + m4 + m5
  · go_enter Trym.func19, Trym.ntmps19
    go_wp2
    go_ret
    exact ⟨⟨_, rfl⟩, rfl⟩
  · go_enter Trym.func19, Trym.ntmps19
    go_wp2
    go_ret
    exact ⟨⟨_, rfl⟩, rfl⟩

theorem fin_zero (f : Nat → Int) (ap : Nat → Bool) (s : Nat → Int) : fin f ap s 0 = ap := by
  funext i
  simp [fin, inB]

end Go.Proofs.Qxb6000476aMods
