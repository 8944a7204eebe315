import Derived.Test.Qxb6000476aModsMem
import Derived.ProofKit
import Derived.RegionTactic
import Derived.ChangeAlike
import Derived.Deep.QuietTactic
import Derived.BigQuiet
import Derived.Outline
namespace Go.Proofs.Qxb6000476aMods
open Go.RowKit
set_option linter.unusedVariables false

/-- ZZSeated. -/
theorem seated_any {B : Nat} {l : Lay} {C A N : Nat → Int} {F : Int → Option (Option Nat × Bool × Bool)} (v : Int) (w : World) (h : Trk B l C A N F w) :
    Calls Trym.prog 34 #[.pointer (some ⟨l.T, 0, none⟩), .int .u32 v] w fun e w' => e = .returned (.bool (F v).isSome) ∧ w' = w := by
  obtain ⟨c, h⟩ := h
  have hF : (F v).isSome = (c v).isSome := by
    cases hc : c v with
    | none => simp [h.non v hc]
    | some b => obtain ⟨k, ap, late, h1, _⟩ := h.chk v b hc; simp [h1]
  rw [hF]
  obtain ⟨es, cl, hm, hes⟩ := h.mp
  have hlk := run_lookup54 hm hes v
  have hc2 : w.cell? ⟨l.T, 2, none⟩ = some (.map (some l.M)) := blk_cell h.tr rfl
  clear h hm hes hF
  go_enter Trym.func34, Trym.ntmps34
  go_wp2
  go_ret
  exact ⟨rfl, rfl⟩

/-- ZZApproved. -/
def apOf (F : Int → Option (Option Nat × Bool × Bool)) (v : Int) : Bool := match F v with | some (_, ap, _) => ap | none => false

theorem approved_any {B : Nat} {l : Lay} {C A N : Nat → Int} {F : Int → Option (Option Nat × Bool × Bool)} (v : Int) (w : World) (h : Trk B l C A N F w) :
    Calls Trym.prog 27 #[.pointer (some ⟨l.T, 0, none⟩), .int .u32 v] w fun e w' => e = .returned (.bool (apOf F v)) ∧ w' = w := by
  obtain ⟨c, h⟩ := h
  obtain ⟨es, cl, hm, hes⟩ := h.mp
  have hlk := run_lookup54 hm hes v
  have hc2 : w.cell? ⟨l.T, 2, none⟩ = some (.map (some l.M)) := blk_cell h.tr rfl
  cases hcv : c v with
  | none =>
    have hap : apOf F v = false := by simp [apOf, h.non v hcv]
    rw [hap]
    rw [hcv] at hlk
    simp only [Option.map_none, Option.isSome_none] at hlk
    clear h hm hes hcv hap
    go_enter Trym.func27, Trym.ntmps27
    go_wp2
    go_ret
    exact ⟨rfl, rfl⟩
  | some b =>
    obtain ⟨k, ap, late, h1, h2, _⟩ := h.chk v b hcv
    have hap : apOf F v = ap := by simp [apOf, h1]
    rw [hap]
    rw [hcv] at hlk
    simp only [Option.map_some, Option.isSome_some] at hlk
    have c2 : w.cell? ⟨b, 2, none⟩ = some (.bool ap) := blk_cell h2 rfl
    clear h hm hes hcv hap h1 h2
    go_enter Trym.func27, Trym.ntmps27
    go_wp2
    go_ret
    exact ⟨rfl, rfl⟩

/-- ZZTally. -/
theorem tally_any {B : Nat} {l : Lay} {C A N : Nat → Int} {F : Int → Option (Option Nat × Bool × Bool)} (k : Nat) (w : World) (h : Trk B l C A N F w) (hk : k < l.n) (hn : l.n ≤ 255) :
    Calls Trym.prog 28 #[.pointer (some ⟨l.T, 0, none⟩), .int .i64 k] w fun e w' => e = .returned (.tuple #[.int .i64 (C k), .int .i64 (A k), .int .i64 (N k)]) ∧ ∃ q, w' = w.drewN q := by
  obtain ⟨c, h⟩ := h
  have hc3 : w.cell? ⟨l.T, 3, none⟩ = some (.slice (some ⟨l.g, 0, none⟩) l.n l.cap) := blk_cell h.tr rfl
  obtain ⟨cur, hg, hcur⟩ := h.row
  have hcg : w.cell? ⟨l.g, k, none⟩ = some (.pointer (some ⟨l.p k, 0, none⟩)) := blk_cell hg (hcur k hk)
  have t1 : w.cell? ⟨l.p k, 1, none⟩ = some (.int .i64 (C k)) := blk_cell (h.tal k hk) rfl
  have t2 : w.cell? ⟨l.p k, 2, none⟩ = some (.int .i64 (A k)) := blk_cell (h.tal k hk) rfl
  have t3 : w.cell? ⟨l.p k, 3, none⟩ = some (.int .i64 (N k)) := blk_cell (h.tal k hk) rfl
  clear h hg hcur
  obtain ⟨T, M, g, n, cap, p⟩ := l
  simp only at *
  go_enter Trym.func28, Trym.ntmps28
  go_wp2
  go_quiet (fail)
  go_wp2
  go_ret3
  exact ⟨rfl, _, rfl⟩

/-- ZZSetTally. -/
theorem setTally_any {B : Nat} {l : Lay} {C A N : Nat → Int} {F : Int → Option (Option Nat × Bool × Bool)} (k : Nat) (x y z : Int) (w : World) (h : Trk B l C A N F w) (hk : k < l.n) (hn : l.n ≤ 255) :
    Calls Trym.prog 36 #[.pointer (some ⟨l.T, 0, none⟩), .int .i64 k, .int .i64 x, .int .i64 y, .int .i64 z] w fun e w' => e = .returned (.tuple #[]) ∧
      Trk B l (fun i => if i = k then x else C i) (fun i => if i = k then y else A i) (fun i => if i = k then z else N i) F w' ∧ Fr B w w' := by
  obtain ⟨c, h⟩ := h
  have hc3 : w.cell? ⟨l.T, 3, none⟩ = some (.slice (some ⟨l.g, 0, none⟩) l.n l.cap) := blk_cell h.tr rfl
  obtain ⟨cur, hg, hcur⟩ := h.row
  have hcg : w.cell? ⟨l.g, k, none⟩ = some (.pointer (some ⟨l.p k, 0, none⟩)) := blk_cell hg (hcur k hk)
  have t1 : w.cell? ⟨l.p k, 1, none⟩ = some (.int .i64 (C k)) := blk_cell (h.tal k hk) rfl
  have t2 : w.cell? ⟨l.p k, 2, none⟩ = some (.int .i64 (A k)) := blk_cell (h.tal k hk) rfl
  have t3 : w.cell? ⟨l.p k, 3, none⟩ = some (.int .i64 (N k)) := blk_cell (h.tal k hk) rfl
  have f1 : ∀ i, w.frozen? ⟨l.p k, i, none⟩ = false := fun i => blk_free (h.tal k hk)
  have hend : Hid (Trk B l (fun i => if i = k then x else C i) (fun i => if i = k then y else A i) (fun i => if i = k then z else N i) F (((w.setCell ⟨l.p k, 1, none⟩ (.int .i64 x)).setCell ⟨l.p k, 2, none⟩ (.int .i64 y)).setCell ⟨l.p k, 3, none⟩ (.int .i64 z)) ∧
      Fr B w (((w.setCell ⟨l.p k, 1, none⟩ (.int .i64 x)).setCell ⟨l.p k, 2, none⟩ (.int .i64 y)).setCell ⟨l.p k, 3, none⟩ (.int .i64 z))) := by
    have b1 := heap_setCell_at w _ 1 (.int .i64 x) _ _ (h.tal k hk)
    have b2 := heap_setCell_at _ _ 2 (.int .i64 y) _ _ b1
    have b3 := heap_setCell_at _ _ 3 (.int .i64 z) _ _ b2
    refine ⟨⟨c, h.putTal hk ?_ ?_ ?_ ?_ ?_⟩, ?_⟩
    · rw [b3]; simp
    · intro b hb
      rw [Below.heap_setCell _ _ _ _ hb, Below.heap_setCell _ _ _ _ hb, Below.heap_setCell _ _ _ _ hb]
    · intro i hi; simp [hi]
    · intro i hi; simp [hi]
    · intro i hi; simp [hi]
    · exact (((Fr.refl B w).setCell (h.tal k hk) np62 (h.hp k hk) _).setCell b1 np62 (h.hp k hk) _).setCell b2 np62 (h.hp k hk) _
  clear h hg hcur
  obtain ⟨T, M, g, n, cap, p⟩ := l
  simp only at *
  go_enter Trym.func36, Trym.ntmps36
  go_wp2
  go_end0
  exact ⟨rfl, hend.out⟩

end Go.Proofs.Qxb6000476aMods
