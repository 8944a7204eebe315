import Derived.Test.Qxb6000476aModsRows
import Derived.Test.Qxb6000476aModsHeap
import Derived.WalkKit
import Derived.ProofKit
import Derived.OpenShut
import Derived.Lib.SliceRun
namespace Go.Proofs.Qxb6000476aMods
open Go.ChangeShapes Go.WideShapes Go.ChangeAt Go.RowKit
set_option linter.unusedVariables false

theorem Trym.info3 : (Trym.prog.info? 3).map (fun i => (i.zero, i.size, i.bytes)) = some (some (.int .i64 0), 1, 8) := by kernel_rfl

theorem clone15_nil (w : World) : Calls Trym.prog 15 #[.slice none 0 0] w fun e w' => e = .returned (.slice none 0 0) ∧ w' = w := by
  have q26 : ∀ (w : World) (a : Option Addr) (n c n' c' : Nat), (binOp .eql 26 (.slice a n c) (.slice none n' c')).run Trym.prog w = .ok (.bool a.isNone) w := fun w a n c n' c' => Lib.run_eql_slice_nil w _ _ a n c n' c' Trym.underlying26
  go_enter Trym.func15, Trym.ntmps15
  go_wp2
  go_ret
  exact ⟨rfl, rfl⟩

theorem make26 (w : World) (n : Nat) (hn : n ≤ 1048576) : (Instr.makeSlice 26 (.int .i64 (n : Int)) (.int .i64 (n : Int))).run Trym.prog w = .ok (.slice (some ⟨w.heap.size, 0, none⟩) n n) (w.alloc (.cells (rowOf n (fun _ => .int .i64 0)) 3)) := by
  obtain ⟨i0, hi, hz0, hz1, hz2⟩ := info_parts Trym.info3
  have h := run_make (P := Trym.prog) w 26 3 i0 (.int .i64 0) Trym.underlying26 hi hz0 .i64 .i64 n n (by omega) (by omega) (by rw [hz2]; omega) (by omega)
  rw [h]
  simp [hz1, Value.cells, made_rowOf]

set_option maxHeartbeats 400000 in
theorem clone15_any (b off len cap : Nat) (f : Nat → Int) (w : World) (hm : len ≤ 1048576) (hb : b < w.heap.size)
    (hc : ∀ i, i < len → w.cell? ⟨b, off + i, none⟩ = some (.int .i64 (f i))) :
    Calls Trym.prog 15 #[.slice (some ⟨b, off, none⟩) len cap] w fun e w' => e = .returned (.slice (some ⟨w.heap.size, 0, none⟩) len len) ∧ w' = w.alloc (.cells (rowOf len (fun i => .int .i64 (f i))) 3) := by
  have hmk := fun w => make26 w len hm
  have hc' : Hid (∀ i, i < len → w.cell? ⟨b, off + i, none⟩ = some (.int .i64 (f i))) := hc
  clear hc
  have q26 : ∀ (w : World) (a : Option Addr) (n c n' c' : Nat), (binOp .eql 26 (.slice a n c) (.slice none n' c')).run Trym.prog w = .ok (.bool a.isNone) w := fun w a n c n' c' => Lib.run_eql_slice_nil w _ _ a n c n' c' Trym.underlying26
  go_enter Trym.func15, Trym.ntmps15
  go_wp2
  go_loopw [4] (fun i wr => ∃ k : Nat, k ≤ len ∧ i = .int .i64 k ∧ wr = w.alloc (.cells (rowOf len (fun i => if i < k then .int .i64 (f i) else .int .i64 0)) 3)) (fun i _ => len - (intOf i).toNat)
  case atStart => exact ⟨0, Nat.zero_le _, rfl, by simp⟩
  case round =>
    obtain ⟨k, hk, rfl, rfl⟩ := hrel
    by_cases hlt : k < len
    · have hcell := hc'.out k hlt
      have hg := rowOf_get len (fun i => if i < k then Value.int .i64 (f i) else .int .i64 0) k hlt
      have hs : Hid ((rowOf len (fun i => if i < k then Value.int .i64 (f i) else .int .i64 0)).setIfInBounds k (.int .i64 (f k)) = rowOf len (fun i => if i < k + 1 then Value.int .i64 (f i) else .int .i64 0)) := by
        show _ = _
        rw [rowOf_set]
        apply rowOf_congr
        intro i hi
        by_cases h1 : i = k
        · subst h1; simp
        · have : (i < k + 1) = (i < k) := by simp; omega
          simp [h1, this]
      obtain ⟨A, hA⟩ : ∃ A, A = rowOf len (fun i => if i < k then Value.int .i64 (f i) else .int .i64 0) := ⟨_, rfl⟩
      rw [← hA] at hg hs ⊢
      simp only [Nat.lt_irrefl, if_false] at hg
      clear hA
      go_wp2
      go_roundw
      case rel => exact ⟨k + 1, by omega, by go_num, by rw [hs.out]⟩
      case measure => simp [intOf]; omega
    · have : k = len := by omega
      subst this
      go_wp2
      go_ret
      refine ⟨rfl, ?_⟩
      congr 2
      apply rowOf_congr
      intro i hi
      simp [hi]

/-- An empty slice that is not nil, wherever it points. -/
theorem clone15_zero (x : Addr) (cap : Nat) (w : World) :
    Calls Trym.prog 15 #[.slice (some x) 0 cap] w fun e w' => e = .returned (.slice (some ⟨w.heap.size, 0, none⟩) 0 0) ∧ w' = w.alloc (.cells (rowOf 0 (fun _ => .int .i64 0)) 3) := by
  have hmk := fun w => make26 w 0 (by omega)
  have q26 : ∀ (w : World) (a : Option Addr) (n c n' c' : Nat), (binOp .eql 26 (.slice a n c) (.slice none n' c')).run Trym.prog w = .ok (.bool a.isNone) w := fun w a n c n' c' => Lib.run_eql_slice_nil w _ _ a n c n' c' Trym.underlying26
  simp only [Int.natCast_zero] at hmk
  go_enter Trym.func15, Trym.ntmps15
  go_wp2
  refine wp_loop_rounds 1 ?_; rw [rounds_succ]
  go_wp2
  go_ret
  exact ⟨rfl, rfl⟩

end Go.Proofs.Qxb6000476aMods
