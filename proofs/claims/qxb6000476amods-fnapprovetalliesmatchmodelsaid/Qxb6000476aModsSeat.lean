import Derived.Test.Qxb6000476aModsAppr
import Derived.Test.Qxb6000476aModsZEn
namespace Go.Proofs.Qxb6000476aMods
open Go.RowKit
set_option linter.unusedVariables false

/-- ZZSeat at a validator that is not known. -/
theorem seat_any {B : Nat} {l : Lay} {C A N : Nat → Int} {F : FT} (v : Int) (k : Nat) (ap late : Bool) (w : World) (h : Trk B l C A N F w) (hFv : F v = none) (hk : k < l.n) (hn : l.n ≤ 255) :
    Calls Trym.prog 35 #[.pointer (some ⟨l.T, 0, none⟩), .int .u32 v, .int .i64 k, .bool ap, .bool late] w fun e w' => e = .returned (.tuple #[]) ∧
      (Trk B l C A N (fun u => if u = v then some (some k, ap, late) else F u) w' ∧ Fr B w w') := by
  obtain ⟨c, h⟩ := h
  have hcv : c v = none := by
    cases hc : c v with
    | none => rfl
    | some b => obtain ⟨k, ap, late, h1, _⟩ := h.chk v b hc; rw [hFv] at h1; cases h1
  obtain ⟨es, cl, hm, hes⟩ := h.mp
  have hc2 : w.cell? ⟨l.T, 2, none⟩ = some (.map (some l.M)) := blk_cell h.tr rfl
  have hc3 : w.cell? ⟨l.T, 3, none⟩ = some (.slice (some ⟨l.g, 0, none⟩) l.n l.cap) := blk_cell h.tr rfl
  obtain ⟨cur, hg, hcur⟩ := h.row
  have hcg : w.cell? ⟨l.g, k, none⟩ = some (.pointer (some ⟨l.p k, 0, none⟩)) := blk_cell hg (hcur k hk)
  have hTlt : l.T < w.heap.size := blk_lt h.tr
  have hglt : l.g < w.heap.size := blk_lt hg
  have hB : B ≤ w.heap.size := by have := h.hT; omega
  have hm1 : (w.alloc (.cells #[.pointer (some ⟨l.p k, 0, none⟩), .int .u64 0, .bool ap, .bool late] 70)).drew.heap[l.M]? = some (.map es cl) := by
    show (w.alloc _).heap[l.M]? = _
    rw [Below.heap_alloc _ _ _ (blk_lt hm)]; exact hm
  have hup := run_update54 hm1 hes v hcv (.pointer (some ⟨w.heap.size, 0, none⟩))
  obtain ⟨W1, hW1⟩ : ∃ W1, W1 = { (w.alloc (.cells #[.pointer (some ⟨l.p k, 0, none⟩), .int .u64 0, .bool ap, .bool late] 70)).drew with heap := (w.alloc (.cells #[.pointer (some ⟨l.p k, 0, none⟩), .int .u64 0, .bool ap, .bool late] 70)).drew.heap.setIfInBounds l.M (.map (es.push { key := .int .u32 v, val := .pointer (some ⟨w.heap.size, 0, none⟩), born := cl }) (cl + 1)) } := ⟨_, rfl⟩
  rw [← hW1] at hup
  have hend : Hid (Trk B l C A N (fun u => if u = v then some (some k, ap, late) else F u) W1 ∧ Fr B w W1) := by
    refine ⟨⟨_, h.addChk hB (k := some k) hcv (by intro j hj; cases hj; exact hk) hm hes (by rw [hW1]; rfl)⟩, ?_⟩
    rw [hW1]
    have f0 : Fr B w (w.alloc (.cells #[.pointer (some ⟨l.p k, 0, none⟩), .int .u64 0, .bool ap, .bool late] 70)).drew :=
      ⟨((Below.refl B w).alloc hB _).drew, ((Fr.refl B w).alloc hB _).plain⟩
    exact f0.setMap hm1 h.hM _
  clear h hm hes hcv hm1 hW1 hg hcur hFv
  obtain ⟨T, M, g, n, cap, p⟩ := l
  simp only at *
  go_enter Trym.func35, Trym.ntmps35
  go_wp2
  go_region
  all_goals
    go_wp2
    first | go_end0 | refine bodyPost_ret (results_none rfl _ _ _) rfl ?_
    exact ⟨rfl, hend.out⟩

end Go.Proofs.Qxb6000476aMods
