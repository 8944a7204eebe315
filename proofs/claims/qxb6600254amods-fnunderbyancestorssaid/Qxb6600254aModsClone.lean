import Derived.Test.Qxb6600254aModsRows
import Derived.Test.Qxb6600254aModsHeap
import Derived.WalkKit
import Derived.ProofKit
import Derived.OpenShut
import Derived.Lib.SliceRun
namespace Go.Proofs.Qxb6600254aMods
open Go.ChangeShapes Go.WideShapes Go.ChangeAt Go.RowKit
set_option linter.unusedVariables false

theorem Trym.info9 : (Trym.prog.info? 9).map (fun i => (i.zero, i.size, i.bytes)) = some (some (.string ⟨#[]⟩), 1, 16) := by kernel_rfl

theorem clone11_nil (w : World) : Calls Trym.prog 11 #[.slice none 0 0] w fun e w' => e = .returned (.slice none 0 0) ∧ w' = w := by
  have q22 : ∀ (w : World) (a : Option Addr) (n c n' c' : Nat), (binOp .eql 22 (.slice a n c) (.slice none n' c')).run Trym.prog w = .ok (.bool a.isNone) w := fun w a n c n' c' => Lib.run_eql_slice_nil w _ _ a n c n' c' Trym.underlying22
  go_enter Trym.func11, Trym.ntmps11
  go_wp2
  go_ret
  exact ⟨rfl, rfl⟩

theorem make22 (w : World) (n : Nat) (hn : n ≤ 1048576) : (Instr.makeSlice 22 (.int .i64 (n : Int)) (.int .i64 (n : Int))).run Trym.prog w = .ok (.slice (some ⟨w.heap.size, 0, none⟩) n n) (w.alloc (.cells (rowOf n (fun _ => .string ⟨#[]⟩)) 9)) := by
  obtain ⟨i0, hi, hz0, hz1, hz2⟩ := info_parts Trym.info9
  have h := run_make (P := Trym.prog) w 22 9 i0 (.string ⟨#[]⟩) Trym.underlying22 hi hz0 .i64 .i64 n n (by omega) (by omega) (by rw [hz2]; omega) (by omega)
  rw [h]
  simp [hz1, Value.cells, made_rowOf]

set_option maxHeartbeats 400000 in
theorem clone11_any (b off len cap : Nat) (f : Nat → ByteArray) (w : World) (hm : len ≤ 1048576) (hb : b < w.heap.size)
    (hc : ∀ i, i < len → w.cell? ⟨b, off + i, none⟩ = some (.string (f i))) :
    Calls Trym.prog 11 #[.slice (some ⟨b, off, none⟩) len cap] w fun e w' => e = .returned (.slice (some ⟨w.heap.size, 0, none⟩) len len) ∧ w' = w.alloc (.cells (rowOf len (fun i => .string (f i))) 9) := by
  have hmk := fun w => make22 w len hm
  have hc' : Hid (∀ i, i < len → w.cell? ⟨b, off + i, none⟩ = some (.string (f i))) := hc
  clear hc
  have q22 : ∀ (w : World) (a : Option Addr) (n c n' c' : Nat), (binOp .eql 22 (.slice a n c) (.slice none n' c')).run Trym.prog w = .ok (.bool a.isNone) w := fun w a n c n' c' => Lib.run_eql_slice_nil w _ _ a n c n' c' Trym.underlying22
  go_enter Trym.func11, Trym.ntmps11
  go_wp2
  go_loopw [4] (fun i wr => ∃ k : Nat, k ≤ len ∧ i = .int .i64 k ∧ wr = w.alloc (.cells (rowOf len (fun i => if i < k then .string (f i) else .string ⟨#[]⟩)) 9)) (fun i _ => len - (intOf i).toNat)
  case atStart => exact ⟨0, Nat.zero_le _, rfl, by simp⟩
  case round =>
    obtain ⟨k, hk, rfl, rfl⟩ := hrel
    by_cases hlt : k < len
    · have hcell := hc'.out k hlt
      have hg := rowOf_get len (fun i => if i < k then Value.string (f i) else .string ⟨#[]⟩) k hlt
      have hs : Hid ((rowOf len (fun i => if i < k then Value.string (f i) else .string ⟨#[]⟩)).setIfInBounds k (.string (f k)) = rowOf len (fun i => if i < k + 1 then Value.string (f i) else .string ⟨#[]⟩)) := by
        show _ = _
        rw [rowOf_set]
        apply rowOf_congr
        intro i hi
        by_cases h1 : i = k
        · subst h1; simp
        · have : (i < k + 1) = (i < k) := by simp; omega
          simp [h1, this]
      obtain ⟨A, hA⟩ : ∃ A, A = rowOf len (fun i => if i < k then Value.string (f i) else .string ⟨#[]⟩) := ⟨_, rfl⟩
      rw [← hA] at hg hs ⊢
      simp only [Nat.lt_irrefl, if_false] at hg
      clear hA
      go_wp2
      go_roundw
      case rel => exact ⟨k + 1, by omega, by go_num, by rw [hs.out]⟩
      case measure => simp [intOf]; omega
    · have : k = len := by omega
      subst this
      go_wp2
      go_ret
      refine ⟨rfl, ?_⟩
      congr 2
      apply rowOf_congr
      intro i hi
      simp [hi]

/-- An empty slice that is not nil, wherever it points. -/
theorem clone11_zero (x : Addr) (cap : Nat) (w : World) :
    Calls Trym.prog 11 #[.slice (some x) 0 cap] w fun e w' => e = .returned (.slice (some ⟨w.heap.size, 0, none⟩) 0 0) ∧ w' = w.alloc (.cells (rowOf 0 (fun _ => .string ⟨#[]⟩)) 9) := by
  have hmk := fun w => make22 w 0 (by omega)
  have q22 : ∀ (w : World) (a : Option Addr) (n c n' c' : Nat), (binOp .eql 22 (.slice a n c) (.slice none n' c')).run Trym.prog w = .ok (.bool a.isNone) w := fun w a n c n' c' => Lib.run_eql_slice_nil w _ _ a n c n' c' Trym.underlying22
  simp only [Int.natCast_zero] at hmk
  go_enter Trym.func11, Trym.ntmps11
  go_wp2
  refine wp_loop_rounds 1 ?_; rw [rounds_succ]
  go_wp2
  go_ret
  exact ⟨rfl, rfl⟩

/-- A slice of m cells, or an empty one. -/
def SlA (w : World) (ao : Option Addr) (b m : Nat) (f : Nat → Value) : Prop :=
  0 < m → ao = some ⟨b, 0, none⟩ ∧ b < w.heap.size ∧ ∀ j, j < m → w.cell? ⟨b, j, none⟩ = some (f j)

/-- A slice that came in: nil; or its cells, said by a function. -/
def ArgSl (w : World) (a : Option Addr) (len : Nat) (cap : Nat) (f : Nat → Value) : Prop :=
  (a = none ∧ len = 0 ∧ cap = 0) ∨ ∃ x, a = some x ∧ (0 < len → ∃ b off, x = ⟨b, off, none⟩ ∧ b < w.heap.size ∧ ∀ i, i < len → w.cell? ⟨b, off + i, none⟩ = some (f i))

theorem ArgSl.below {w w' : World} {a : Option Addr} {len cap : Nat} {f : Nat → Value} (h : ArgSl w a len cap f) (hb : Below w.heap.size w w') : ArgSl w' a len cap f := by
  rcases h with h | ⟨x, hx, h⟩
  · exact .inl h
  · refine .inr ⟨x, hx, fun hl => ?_⟩
    obtain ⟨b, off, e, hlt, hc⟩ := h hl
    exact ⟨b, off, e, Nat.lt_of_lt_of_le hlt hb.size, fun i hi => (hb.cell (p := ⟨b, off + i, none⟩) hlt).trans (hc i hi)⟩

theorem SlA.below {w w' : World} {ao : Option Addr} {b m : Nat} {f : Nat → Value} (h : SlA w ao b m f) (hb : Below w.heap.size w w') : SlA w' ao b m f := by
  intro hm
  obtain ⟨h1, h2, h3⟩ := h hm
  exact ⟨h1, Nat.lt_of_lt_of_le h2 hb.size, fun j hj => (hb.cell (p := ⟨b, j, none⟩) h2).trans (h3 j hj)⟩

def ClonePost (w : World) (len : Nat) (f : Nat → Value) (e : Ending) (w' : World) : Prop :=
  ∃ ao b cap, e = .returned (.slice ao len cap) ∧ SlA w' ao b len f ∧ Below w.heap.size w w'

theorem clone11_sl (a : Option Addr) (len cap : Nat) (f : Nat → ByteArray) (w : World) (hm : len ≤ 1048576) (h : ArgSl w a len cap (fun i => .string (f i))) :
    Calls Trym.prog 11 #[.slice a len cap] w fun e w' => ClonePost w len (fun i => .string (f i)) e w' := by
  rcases h with ⟨rfl, rfl, rfl⟩ | ⟨x, rfl, h⟩
  · refine (clone11_nil w).mono ?_
    rintro e w' ⟨rfl, rfl⟩
    exact ⟨none, 0, 0, rfl, fun h => by omega, Below.refl _ _⟩
  · by_cases h0 : 0 < len
    · obtain ⟨b, off, rfl, hb, hc⟩ := h h0
      refine (clone11_any b off len cap f w hm hb hc).mono ?_
      rintro e w' ⟨rfl, rfl⟩
      exact ⟨_, w.heap.size, len, rfl, fun _ => ⟨rfl, by simp, fun j hj => by rw [World.cell?_alloc_new]; exact rowOf_get _ _ _ hj⟩, (Below.refl _ _).alloc (Nat.le_refl _) _⟩
    · obtain rfl : len = 0 := by omega
      refine (clone11_zero x cap w).mono ?_
      rintro e w' ⟨rfl, rfl⟩
      exact ⟨_, 0, 0, rfl, fun h => by omega, (Below.refl _ _).alloc (Nat.le_refl _) _⟩

theorem argSl_strs {w : World} {x : Addr} {len cap : Nat} {zs : List ByteArray} (hl : len ≤ zs.length) (hcell : ∀ i, i < zs.length → w.cell? (x.add i) = some (.string (zs.getD i ByteArray.empty))) :
    ArgSl w (some x) len cap (fun i => .string (zs.getD i ByteArray.empty)) := by
  refine .inr ⟨x, rfl, fun h0 => ?_⟩
  obtain ⟨b, off, spot⟩ := x
  have hspot : spot = none := by simpa [Addr.add] using World.cell?_spot (hcell 0 (by omega))
  subst hspot
  have hcell' : ∀ j, j < zs.length → w.cell? ⟨b, off + j, none⟩ = some (.string (zs.getD j ByteArray.empty)) := fun j hj => by
    have := hcell j hj
    rw [add_plain] at this
    exact this
  exact ⟨b, off, rfl, World.block_lt_of_cell? w _ (hcell' 0 (by omega)), fun i hi => hcell' i (by omega)⟩

theorem ArgSl.get {w : World} {a : Option Addr} {len cap : Nat} {f : Nat → Value} (h : ArgSl w a len cap f) {k : Nat} (hk : k < len) : ∃ b off, a = some ⟨b, off, none⟩ ∧ w.cell? ⟨b, off + k, none⟩ = some (f k) := by
  rcases h with ⟨_, rfl, _⟩ | ⟨x, rfl, h⟩
  · omega
  · obtain ⟨b, off, rfl, _, hc⟩ := h (by omega)
    exact ⟨b, off, rfl, hc k hk⟩

theorem SlA.get {w : World} {a : Option Addr} {b m : Nat} {f : Nat → Value} (h : SlA w a b m f) {k : Nat} (hk : k < m) : ∃ b off, a = some ⟨b, off, none⟩ ∧ w.cell? ⟨b, off + k, none⟩ = some (f k) := by
  obtain ⟨h1, h2, h3⟩ := h (by omega)
  exact ⟨b, 0, h1, by rw [Nat.zero_add]; exact h3 k hk⟩

end Go.Proofs.Qxb6600254aMods
