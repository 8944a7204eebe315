import Derived.Test.Qxb6003631aModsRows
import Derived.Test.Qxb6003631aModsHeap
import Derived.WalkKit
import Derived.ProofKit
import Derived.Deep.MidRow
import Derived.Deep.WholeRow
import Derived.Laws.StructEq
namespace Go.Proofs.Qxb6003631aMods
open Go.RowKit
set_option linter.unusedVariables false

theorem blk_cell {w : World} {b i : Nat} {cs : Array Value} {t : TypeId} {v : Value} (h : w.heap[b]? = some (.cells cs t (0, 0))) (hv : cs[i]? = some v) : w.cell? ⟨b, i, none⟩ = some v := by
  simp [World.cell?, h, hv]
theorem blk_free {w : World} {b i : Nat} {cs : Array Value} {t : TypeId} (h : w.heap[b]? = some (.cells cs t (0, 0))) : w.frozen? ⟨b, i, none⟩ = false := by
  simp [World.frozen?, h]
theorem blk_lt {w : World} {b : Nat} {o : Obj} (h : w.heap[b]? = some o) : b < w.heap.size := (Array.getElem?_eq_some_iff.1 h).1
theorem heap_setCell_at (w : World) (b i : Nat) (v : Value) (cs : Array Value) (t : TypeId) (h : w.heap[b]? = some (.cells cs t (0, 0))) :
    (w.setCell ⟨b, i, none⟩ v).heap[b]? = some (.cells (cs.setIfInBounds i v) t (0, 0)) := by
  simp [World.setCell, Array.getElem?_modify, h]

/-- A row of 32 bytes. -/
def row32 (y : Nat → Int) : Array Value := rowOf 32 (fun i => .int .u8 (y i))
theorem info25 : (Trym.prog.info? 25).map (·.size) = some 32 := by kernel_rfl
theorem row32_size (y : Nat → Int) : (row32 y).size = 32 := rowOf_size _ _
theorem row32_get (y : Nat → Int) (i : Nat) (h : i < 32) : (row32 y)[i]? = some (.int .u8 (y i)) := rowOf_get _ _ _ h
theorem row32_set (y : Nat → Int) (k : Nat) (x : Int) : (row32 y).setIfInBounds k (.int .u8 x) = row32 (fun i => if i = k then x else y i) := by
  unfold row32
  rw [rowOf_set]
  apply rowOf_congr
  intro i _
  by_cases e : i = k <;> simp [e]
theorem row32_congr {y z : Nat → Int} (h : ∀ i, i < 32 → y i = z i) : row32 y = row32 z := rowOf_congr (fun i hi => by rw [h i hi])
theorem row32_one (y : Nat → Int) : (row32 y).all (·.oneCell') = true := by
  rw [Array.all_eq_true_iff_forall_mem]
  intro v hv
  unfold row32 rowOf at hv
  rw [Array.mem_ofFn] at hv
  obtain ⟨i, rfl⟩ := hv
  rfl
theorem row32_i (y : Nat → Int) : (Trym.prog.info? 25).map (·.size) = some (row32 y).size := by rw [info25, row32_size]

theorem row32_range {w : World} {b : Nat} {y : Nat → Int} (hc : ∀ i, i < 32 → w.cell? ⟨b, i, none⟩ = some (.int .u8 (y i))) : w.rangeAt b 0 (row32 y).toList := by
  intro j v hv
  have hj : j < 32 := by
    have := (List.getElem?_eq_some_iff.1 hv).1
    rw [Array.length_toList, row32_size] at this
    exact this
  rw [Array.getElem?_toList, row32_get y j hj] at hv
  rw [Nat.zero_add, hc j hj]
  exact hv

/-- Two rows of 32 bytes compared. -/
def eq32 (y z : Nat → Int) : Bool := (List.range 32).all fun i => y i == z i

theorem size5 (w : World) : (sizeOf 5).run Trym.prog w = .ok 1 w := by kernel_rfl

theorem part5 (y : Nat → Int) (i : Nat) (h : i < 32) (w : World) : (part 5 (row32 y) (i * 1)).run Trym.prog w = .ok (.int .u8 (y i)) w := by
  have hg := row32_get y i h
  simp [part, isAgg, run_underlying Trym.underlying5, hg]

theorem run_equal32 (d : Nat) (y z : Nat → Int) (w : World) : (Op.equalIn (d + 2) 25 (.agg (row32 y)) (.agg (row32 z))).run Trym.prog w = .ok (eq32 y z) w := by
  unfold eq32
  rw [List.range_eq_range', Op.equalIn]
  simp only [Sem.run_bind, run_underlying Trym.underlying25, Result.andThen_ok, size5, Std.Legacy.Range.forIn_eq_forIn_range', Std.Legacy.Range.size, Nat.sub_zero, Nat.add_sub_cancel, Nat.div_one]
  have hl : ∀ i ∈ List.range' 0 32 1, i < 32 := fun i hi => by simpa using (List.mem_range'_1.1 hi).2
  generalize List.range' 0 32 1 = l at hl ⊢
  induction l with
  | nil => simp
  | cons i l ih =>
    have hi : i < 32 := hl i (by simp)
    have pe : (Op.equalIn (d + 1) 5 (.int .u8 (y i)) (.int .u8 (z i))).run Trym.prog w = .ok (y i == z i) w := run_equalIn_int w d 5 .u8 .u8 _ _ Trym.underlying5
    simp only [List.forIn_cons, Sem.run_bind, part5 y i hi, part5 z i hi, pe, Result.andThen_ok, List.all_cons]
    cases hb : (y i == z i)
    · simp
    · simp only [Bool.not_true, Bool.false_eq_true, if_false, Sem.run_pure, Result.andThen_ok, Bool.true_and]
      exact ih fun j hj => hl j (by simp [hj])

theorem run_neq32 (y z : Nat → Int) (w : World) : (binOp .neq 25 (.agg (row32 y)) (.agg (row32 z))).run Trym.prog w = .ok (.bool (!eq32 y z)) w := by
  rw [run_neq_struct, run_equal32 9998 y z w]
  rfl

theorem and127 (y : Int) (h0 : 0 ≤ y) (h1 : y ≤ 255) : bits BinOp.and IntKind.u8 y 127 = y % 128 := by
  obtain ⟨n, rfl⟩ := Int.eq_ofNat_of_zero_le h0
  have hn : n < 256 := by omega
  have := (by decide +kernel : ∀ n : Fin 256, bits BinOp.and IntKind.u8 (n.val : Int) 127 = (n.val : Int) % 128) ⟨n, hn⟩
  exact this
theorem and128 (y : Int) (h0 : 0 ≤ y) (h1 : y ≤ 255) : bits BinOp.and IntKind.u8 y 128 = y / 128 * 128 := by
  obtain ⟨n, rfl⟩ := Int.eq_ofNat_of_zero_le h0
  have hn : n < 256 := by omega
  have := (by decide +kernel : ∀ n : Fin 256, bits BinOp.and IntKind.u8 (n.val : Int) 128 = (n.val : Int) / 128 * 128) ⟨n, hn⟩
  exact this
theorem or128 (y : Int) (h0 : 0 ≤ y) (h1 : y ≤ 127) : bits BinOp.or IntKind.u8 y 128 = y + 128 := by
  obtain ⟨n, rfl⟩ := Int.eq_ofNat_of_zero_le h0
  have hn : n < 128 := by omega
  have := (by decide +kernel : ∀ n : Fin 128, bits BinOp.or IntKind.u8 (n.val : Int) 128 = (n.val : Int) + 128) ⟨n, hn⟩
  exact this

end Go.Proofs.Qxb6003631aMods
