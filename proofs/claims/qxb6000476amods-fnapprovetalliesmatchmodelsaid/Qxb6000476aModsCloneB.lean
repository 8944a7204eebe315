import Derived.Test.Qxb6000476aModsRows
import Derived.Test.Qxb6000476aModsHeap
import Derived.WalkKit
import Derived.ProofKit
import Derived.OpenShut
import Derived.Lib.SliceRun
namespace Go.Proofs.Qxb6000476aMods
open Go.ChangeShapes Go.WideShapes Go.ChangeAt Go.RowKit
set_option linter.unusedVariables false

theorem Trym.info22 : (Trym.prog.info? 22).map (fun i => (i.zero, i.size, i.bytes)) = some (some (.int .u32 0), 1, 4) := by kernel_rfl
theorem Trym.info4 : (Trym.prog.info? 4).map (fun i => (i.zero, i.size, i.bytes)) = some (some (.bool false), 1, 1) := by kernel_rfl

theorem clone21_nil (w : World) : Calls Trym.prog 21 #[.slice none 0 0] w fun e w' => e = .returned (.slice none 0 0) ∧ w' = w := by
  have q35 : ∀ (w : World) (a : Option Addr) (n c n' c' : Nat), (binOp .eql 35 (.slice a n c) (.slice none n' c')).run Trym.prog w = .ok (.bool a.isNone) w := fun w a n c n' c' => Lib.run_eql_slice_nil w _ _ a n c n' c' Trym.underlying35
  go_enter Trym.func21, Trym.ntmps21
  go_wp2
  go_ret
  exact ⟨rfl, rfl⟩

theorem make35 (w : World) (n : Nat) (hn : n ≤ 1048576) : (Instr.makeSlice 35 (.int .i64 (n : Int)) (.int .i64 (n : Int))).run Trym.prog w = .ok (.slice (some ⟨w.heap.size, 0, none⟩) n n) (w.alloc (.cells (rowOf n (fun _ => .int .u32 0)) 22)) := by
  obtain ⟨i0, hi, hz0, hz1, hz2⟩ := info_parts Trym.info22
  have h := run_make (P := Trym.prog) w 35 22 i0 (.int .u32 0) Trym.underlying35 hi hz0 .i64 .i64 n n (by omega) (by omega) (by rw [hz2]; omega) (by omega)
  rw [h]
  simp [hz1, Value.cells, made_rowOf]

set_option maxHeartbeats 400000 in
theorem clone21_any (b off len cap : Nat) (f : Nat → Int) (w : World) (hm : len ≤ 1048576) (hb : b < w.heap.size)
    (hc : ∀ i, i < len → w.cell? ⟨b, off + i, none⟩ = some (.int .u32 (f i))) :
    Calls Trym.prog 21 #[.slice (some ⟨b, off, none⟩) len cap] w fun e w' => e = .returned (.slice (some ⟨w.heap.size, 0, none⟩) len len) ∧ w' = w.alloc (.cells (rowOf len (fun i => .int .u32 (f i))) 22) := by
  have hmk := fun w => make35 w len hm
  have hc' : Hid (∀ i, i < len → w.cell? ⟨b, off + i, none⟩ = some (.int .u32 (f i))) := hc
  clear hc
  have q35 : ∀ (w : World) (a : Option Addr) (n c n' c' : Nat), (binOp .eql 35 (.slice a n c) (.slice none n' c')).run Trym.prog w = .ok (.bool a.isNone) w := fun w a n c n' c' => Lib.run_eql_slice_nil w _ _ a n c n' c' Trym.underlying35
  go_enter Trym.func21, Trym.ntmps21
  go_wp2
  go_loopw [4] (fun i wr => ∃ k : Nat, k ≤ len ∧ i = .int .i64 k ∧ wr = w.alloc (.cells (rowOf len (fun i => if i < k then .int .u32 (f i) else .int .u32 0)) 22)) (fun i _ => len - (intOf i).toNat)
  case atStart => exact ⟨0, Nat.zero_le _, rfl, by simp⟩
  case round =>
    obtain ⟨k, hk, rfl, rfl⟩ := hrel
    by_cases hlt : k < len
    · have hcell := hc'.out k hlt
      have hg := rowOf_get len (fun i => if i < k then Value.int .u32 (f i) else .int .u32 0) k hlt
      have hs : Hid ((rowOf len (fun i => if i < k then Value.int .u32 (f i) else .int .u32 0)).setIfInBounds k (.int .u32 (f k)) = rowOf len (fun i => if i < k + 1 then Value.int .u32 (f i) else .int .u32 0)) := by
        show _ = _
        rw [rowOf_set]
        apply rowOf_congr
        intro i hi
        by_cases h1 : i = k
        · subst h1; simp
        · have : (i < k + 1) = (i < k) := by simp; omega
          simp [h1, this]
      obtain ⟨A, hA⟩ : ∃ A, A = rowOf len (fun i => if i < k then Value.int .u32 (f i) else .int .u32 0) := ⟨_, rfl⟩
      rw [← hA] at hg hs ⊢
      simp only [Nat.lt_irrefl, if_false] at hg
      clear hA
      go_wp2
      go_roundw
      case rel => exact ⟨k + 1, by omega, by go_num, by rw [hs.out]⟩
      case measure => simp [intOf]; omega
    · have : k = len := by omega
      subst this
      go_wp2
      go_ret
      refine ⟨rfl, ?_⟩
      congr 2
      apply rowOf_congr
      intro i hi
      simp [hi]

/-- An empty slice that is not nil, wherever it points. -/
theorem clone21_zero (x : Addr) (cap : Nat) (w : World) :
    Calls Trym.prog 21 #[.slice (some x) 0 cap] w fun e w' => e = .returned (.slice (some ⟨w.heap.size, 0, none⟩) 0 0) ∧ w' = w.alloc (.cells (rowOf 0 (fun _ => .int .u32 0)) 22) := by
  have hmk := fun w => make35 w 0 (by omega)
  have q35 : ∀ (w : World) (a : Option Addr) (n c n' c' : Nat), (binOp .eql 35 (.slice a n c) (.slice none n' c')).run Trym.prog w = .ok (.bool a.isNone) w := fun w a n c n' c' => Lib.run_eql_slice_nil w _ _ a n c n' c' Trym.underlying35
  simp only [Int.natCast_zero] at hmk
  go_enter Trym.func21, Trym.ntmps21
  go_wp2
  refine wp_loop_rounds 1 ?_; rw [rounds_succ]
  go_wp2
  go_ret
  exact ⟨rfl, rfl⟩

theorem clone22_nil (w : World) : Calls Trym.prog 22 #[.slice none 0 0] w fun e w' => e = .returned (.slice none 0 0) ∧ w' = w := by
  have q36 : ∀ (w : World) (a : Option Addr) (n c n' c' : Nat), (binOp .eql 36 (.slice a n c) (.slice none n' c')).run Trym.prog w = .ok (.bool a.isNone) w := fun w a n c n' c' => Lib.run_eql_slice_nil w _ _ a n c n' c' Trym.underlying36
  go_enter Trym.func22, Trym.ntmps22
  go_wp2
  go_ret
  exact ⟨rfl, rfl⟩

theorem make36 (w : World) (n : Nat) (hn : n ≤ 1048576) : (Instr.makeSlice 36 (.int .i64 (n : Int)) (.int .i64 (n : Int))).run Trym.prog w = .ok (.slice (some ⟨w.heap.size, 0, none⟩) n n) (w.alloc (.cells (rowOf n (fun _ => .bool false)) 4)) := by
  obtain ⟨i0, hi, hz0, hz1, hz2⟩ := info_parts Trym.info4
  have h := run_make (P := Trym.prog) w 36 4 i0 (.bool false) Trym.underlying36 hi hz0 .i64 .i64 n n (by omega) (by omega) (by rw [hz2]; omega) (by omega)
  rw [h]
  simp [hz1, Value.cells, made_rowOf]

set_option maxHeartbeats 400000 in
theorem clone22_any (b off len cap : Nat) (f : Nat → Bool) (w : World) (hm : len ≤ 1048576) (hb : b < w.heap.size)
    (hc : ∀ i, i < len → w.cell? ⟨b, off + i, none⟩ = some (.bool (f i))) :
    Calls Trym.prog 22 #[.slice (some ⟨b, off, none⟩) len cap] w fun e w' => e = .returned (.slice (some ⟨w.heap.size, 0, none⟩) len len) ∧ w' = w.alloc (.cells (rowOf len (fun i => .bool (f i))) 4) := by
  have hmk := fun w => make36 w len hm
  have hc' : Hid (∀ i, i < len → w.cell? ⟨b, off + i, none⟩ = some (.bool (f i))) := hc
  clear hc
  have q36 : ∀ (w : World) (a : Option Addr) (n c n' c' : Nat), (binOp .eql 36 (.slice a n c) (.slice none n' c')).run Trym.prog w = .ok (.bool a.isNone) w := fun w a n c n' c' => Lib.run_eql_slice_nil w _ _ a n c n' c' Trym.underlying36
  go_enter Trym.func22, Trym.ntmps22
  go_wp2
  go_loopw [4] (fun i wr => ∃ k : Nat, k ≤ len ∧ i = .int .i64 k ∧ wr = w.alloc (.cells (rowOf len (fun i => if i < k then .bool (f i) else .bool false)) 4)) (fun i _ => len - (intOf i).toNat)
  case atStart => exact ⟨0, Nat.zero_le _, rfl, by simp⟩
  case round =>
    obtain ⟨k, hk, rfl, rfl⟩ := hrel
    by_cases hlt : k < len
    · have hcell := hc'.out k hlt
      have hg := rowOf_get len (fun i => if i < k then Value.bool (f i) else .bool false) k hlt
      have hs : Hid ((rowOf len (fun i => if i < k then Value.bool (f i) else .bool false)).setIfInBounds k (.bool (f k)) = rowOf len (fun i => if i < k + 1 then Value.bool (f i) else .bool false)) := by
        show _ = _
        rw [rowOf_set]
        apply rowOf_congr
        intro i hi
        by_cases h1 : i = k
        · subst h1; simp
        · have : (i < k + 1) = (i < k) := by simp; omega
          simp [h1, this]
      obtain ⟨A, hA⟩ : ∃ A, A = rowOf len (fun i => if i < k then Value.bool (f i) else .bool false) := ⟨_, rfl⟩
      rw [← hA] at hg hs ⊢
      simp only [Nat.lt_irrefl, if_false] at hg
      clear hA
      go_wp2
      go_roundw
      case rel => exact ⟨k + 1, by omega, by go_num, by rw [hs.out]⟩
      case measure => simp [intOf]; omega
    · have : k = len := by omega
      subst this
      go_wp2
      go_ret
      refine ⟨rfl, ?_⟩
      congr 2
      apply rowOf_congr
      intro i hi
      simp [hi]

/-- An empty slice that is not nil, wherever it points. -/
theorem clone22_zero (x : Addr) (cap : Nat) (w : World) :
    Calls Trym.prog 22 #[.slice (some x) 0 cap] w fun e w' => e = .returned (.slice (some ⟨w.heap.size, 0, none⟩) 0 0) ∧ w' = w.alloc (.cells (rowOf 0 (fun _ => .bool false)) 4) := by
  have hmk := fun w => make36 w 0 (by omega)
  have q36 : ∀ (w : World) (a : Option Addr) (n c n' c' : Nat), (binOp .eql 36 (.slice a n c) (.slice none n' c')).run Trym.prog w = .ok (.bool a.isNone) w := fun w a n c n' c' => Lib.run_eql_slice_nil w _ _ a n c n' c' Trym.underlying36
  simp only [Int.natCast_zero] at hmk
  go_enter Trym.func22, Trym.ntmps22
  go_wp2
  refine wp_loop_rounds 1 ?_; rw [rounds_succ]
  go_wp2
  go_ret
  exact ⟨rfl, rfl⟩

end Go.Proofs.Qxb6000476aMods
