import Derived.Test.Qxb6000476aModsApWalk
import Derived.OpenShut
namespace Go.Proofs.Qxb6000476aMods
open Go.ChangeShapes Go.WideShapes Go.ChangeAt Go.RowKit
set_option linter.unusedVariables false

theorem ap_all (a0 : Int) (h0 : 0 ≤ a0) (h255 : a0 ≤ 255) (a1 a2 a3 a4 a5 : Option Addr) (m1 m2 m3 m4 m5 c1 c2 c3 c4 c5 : Nat) (f g s : Nat → Int) (ap lt : Nat → Bool) (w : World) (hg : ∀ j, 0 ≤ g j ∧ g j ≤ 4294967295)
    (s1 : ArgSl w a1 m1 c1 (fun i => .int .u32 (f i))) (s2 : ArgSl w a2 m2 c2 (fun i => .int .u32 (g i))) (s3 : ArgSl w a3 m3 c3 (fun i => .bool (lt i))) (s4 : ArgSl w a4 m4 c4 (fun i => .bool (ap i))) (s5 : ArgSl w a5 m5 c5 (fun i => .int .u32 (s i))) :
    Calls Trym.prog 8 #[.int .u8 a0, .slice a1 m1 c1, .slice a2 m2 c2, .slice a3 m3 c3, .slice a4 m4 c4, .slice a5 m5 c5] w fun e w' => e = .returned (.bool true) ∧ Below w.heap.size w w' := by
  by_cases hl : 1024 < m1 ∨ 1024 < m2 ∨ 1024 < m3 ∨ 1024 < m4 ∨ 1024 < m5
  · exact ap_long a0 a1 a2 a3 a4 a5 m1 m2 m3 m4 m5 c1 c2 c3 c4 c5 w hl
  by_cases he : m2 = m1 ∧ m3 = m1 ∧ m4 = m1
  · obtain ⟨rfl, rfl, rfl⟩ := he
    by_cases hz : a0 = 0
    · subst hz
      exact ap_unfit 0 a1 a2 a3 a4 a5 _ _ _ _ m5 c1 c2 c3 c4 c5 w (by omega) (by omega) (by omega) (by omega) (by omega) (fit_no0 a1 a2 a3 a4 _ c1 c2 c3 c4 w)
    · obtain ⟨n, rfl⟩ := Int.eq_ofNat_of_zero_le h0
      refine ap_main n _ m5 a1 a2 a3 a4 a5 c1 c2 c3 c4 c5 f g s (fun j => (g j % (n : Int)).toNat) ap lt w (by omega) (by omega) (by omega) (by omega) hg (fun j => ?_) s1 s2 s3 s4 s5
      have h1 := Int.emod_nonneg (g j) (show (n : Int) ≠ 0 by omega)
      rw [Int.toNat_of_nonneg h1]
  · exact ap_unfit a0 a1 a2 a3 a4 a5 m1 m2 m3 m4 m5 c1 c2 c3 c4 c5 w (by omega) (by omega) (by omega) (by omega) (by omega) (fit_no a0 a1 a2 a3 a4 m1 m2 m3 m4 c1 c2 c3 c4 w he)

theorem argSl_ints {w : World} {k : IntKind} {x : Addr} {len cap : Nat} {zs : List Int} (hl : len ≤ zs.length) (hcell : ∀ i, i < zs.length → w.cell? (x.add i) = some (.int k (zs.getD i 0))) :
    ArgSl w (some x) len cap (fun i => .int k (zs[i]?.getD 0)) := by
  refine .inr ⟨x, rfl, fun h0 => ?_⟩
  obtain ⟨b, off, spot⟩ := x
  have hspot : spot = none := by simpa [Addr.add] using World.cell?_spot (hcell 0 (by omega))
  subst hspot
  have hcell' : ∀ j, j < zs.length → w.cell? ⟨b, off + j, none⟩ = some (.int k (zs[j]?.getD 0)) := fun j hj => by
    have := hcell j hj
    rw [add_plain] at this
    simpa [List.getD] using this
  exact ⟨b, off, rfl, World.block_lt_of_cell? w _ (hcell' 0 (by omega)), fun i hi => hcell' i (by omega)⟩

theorem argSl_bools {w : World} {x : Addr} {len cap : Nat} {B : Nat → Bool} (hl : len ≤ cap) (hcell : ∀ i, i < cap → w.cell? (x.add i) = some (.bool (B i))) :
    ArgSl w (some x) len cap (fun i => .bool (B i)) := by
  refine .inr ⟨x, rfl, fun h0 => ?_⟩
  obtain ⟨b, off, spot⟩ := x
  have hspot : spot = none := by simpa [Addr.add] using World.cell?_spot (hcell 0 (by omega))
  subst hspot
  have hcell' : ∀ j, j < cap → w.cell? ⟨b, off + j, none⟩ = some (.bool (B j)) := fun j hj => by
    have := hcell j hj
    rwa [add_plain] at this
  exact ⟨b, off, rfl, World.block_lt_of_cell? w _ (hcell' 0 (by omega)), fun i hi => hcell' i (by omega)⟩

end Go.Proofs.Qxb6000476aMods
