import Derived.Test.Qxb6000476aModsHeap
import Derived.Deep.RegionLaw
import Derived.OneCell
namespace Go.Proofs.Qxb6000476aMods
open Go.RowKit

/-- 'append' onto a row of the call's own, as one step of a region that draws. -/
theorem step_append_own {P : Program} {ops : Array Oper} {o : Oper} {a : Act} {w : World} {K : Act → World → Prop} {Q : Exit → Act → World → Prop} {E : Prop}
    (hg : o.guard = none) (s x : Operand) (t : TypeId) (hop : o.op = Op.call { callee := Callee.builtin Builtin.append, args := #[s, x], argTypes := #[t, t] })
    (base : Nat) (e : TypeId) (i : TypeInfo) (z : Value) (size bytes : Nat) (h1 : P.underlying t = some (.slice e)) (h2 : P.info? e = some i) (h3 : i.zero = some z) (h4 : i.size = size) (h5 : i.bytes = bytes) (h6 : z.cells.size = size) (h7 : 0 < size)
    (v : Value) (n : Nat) (xs : List Value) (hs : a.eval s = v) (hown : w.ownsRow base e size v n xs)
    (ad : Addr) (m c : Nat) (news : List Value) (hx : a.eval x = .slice (some ad) m c) (hn : news.length = m * size) (hc : ∀ j u, news[j]? = some u → w.cell? (ad.add j) = some u) (h1c : ∀ u ∈ news, u.oneCell' = true)
    (b1 : n + m ≤ maxLen) (b2 : (n + m) * bytes ≤ 140737488355328) (b3 : base ≤ w.heap.size)
    (hK : ∀ v' w', w'.ownsRow base e size v' (n + m) (xs ++ news) → w.grownBy w' v.ownBlock → K (a.put o.dst v') w') :
    if Region.wanted o (yielded ops a.tmps) = true then Oper.wp P o a w K Q else E := by
  have hw : Region.wanted o (yielded ops a.tmps) = true := by simp [Region.wanted, hg]
  rw [if_pos hw]
  obtain ⟨v', w', hrun, r1, r2, _⟩ := run_append_own (P := P) w base t o.type e i z size bytes h1 h2 h3 h4 h5 h6 h7 v n xs hown ad m c news hn hc h1c b1 b2 b3
  unfold Oper.wp
  simp [execOp, hop, resolve, invoke, builtin, hs, hx, hrun, Result.andThen]
  exact hK v' w' r1 r2

def ptrs (p : Nat → Nat) (k : Nat) : List Value := (List.range k).map fun i => .pointer (some ⟨p i, 0, none⟩)

theorem ptrs_succ (p : Nat → Nat) (k N : Nat) : ptrs (fun i => if i = k then N else p i) (k + 1) = ptrs p k ++ [.pointer (some ⟨N, 0, none⟩)] := by
  unfold ptrs
  rw [List.range_succ, List.map_append]
  congr 1
  · apply List.map_congr_left
    intro i hi
    have : i < k := List.mem_range.1 hi
    simp [Nat.ne_of_lt this]
  · simp

theorem ptrs_length (p : Nat → Nat) (k : Nat) : (ptrs p k).length = k := by simp [ptrs]

theorem ptrs_get (p : Nat → Nat) (k i : Nat) (h : i < k) : (ptrs p k)[i]? = some (.pointer (some ⟨p i, 0, none⟩)) := by
  simp [ptrs, h]

/-- A tracker of k tranches that hold the counts f, in memory. -/
structure EnInv (w0 : World) (B T M : Nat) (needed : Int) (f : Nat → Int) (k : Nat) (p : Nat → Nat) (v : Value) (wr : World) : Prop where
  below : Below B w0 wr
  hB : B ≤ wr.heap.size
  hT : B ≤ T
  tr : wr.heap[T]? = some (.cells #[.int .u32 needed, .int .u64 0, .map (some M), v, .slice none 0 0] 59 (0, 0))
  own : wr.ownsRow B 60 1 v k (ptrs p k)
  tal : ∀ i, i < k → wr.heap[p i]? = some (.cells #[.int .u32 i, .int .i64 (f i), .int .i64 0, .int .i64 0] 62 (0, 0))

theorem heap_setCell_at (w : World) (b i : Nat) (v : Value) (cs : Array Value) (t : TypeId) (h : w.heap[b]? = some (.cells cs t (0, 0))) :
    (w.setCell ⟨b, i, none⟩ v).heap[b]? = some (.cells (cs.setIfInBounds i v) t (0, 0)) := by
  simp [World.setCell, Array.getElem?_modify, h]

theorem enInv_step {w0 wr w1 : World} {B T M : Nat} {needed : Int} {f : Nat → Int} {k : Nat} {p : Nat → Nat} {v v' : Value} {o1 o2 : Obj}
    (h : EnInv w0 B T M needed f k p v wr) (ho1 : o1 = .cells #[.int .u32 k, .int .i64 (f k), .int .i64 0, .int .i64 0] 62)
    (hown : w1.ownsRow B 60 1 v' (k + 1) (ptrs p k ++ [.pointer (some ⟨wr.heap.size, 0, none⟩)])) (hg0 : World.grownBy ((wr.alloc o1).alloc o2).drew w1 v.ownBlock) :
    EnInv w0 B T M needed f (k + 1) (fun i => if i = k then wr.heap.size else p i) v' (w1.setCell ⟨T, 3, none⟩ v') := by
  have hg : World.grownBy ((wr.alloc o1).alloc o2) w1 v.ownBlock := ⟨hg0.os, hg0.tape, hg0.output, hg0.size, hg0.block⟩
  obtain ⟨below, hB, hT, tr, own, tal⟩ := h
  have hTlt : T < wr.heap.size := (Array.getElem?_eq_some_iff.1 tr).1
  have hrow : ∀ r, v.ownBlock = some r → B ≤ r ∧ r < wr.heap.size ∧ ∃ cur, wr.heap[r]? = some (.cells cur 60 (0, 0)) := by
    intro r hr
    rcases own.2 with ⟨rfl, _⟩ | ⟨g, cap, cur, rfl, hb, hgg, _⟩
    · simp [Value.ownBlock] at hr
    · simp [Value.ownBlock] at hr
      subst hr
      exact ⟨hb, (Array.getElem?_eq_some_iff.1 hgg).1, cur, hgg⟩
  have hkeep : ∀ (b : Nat) (o : Obj), wr.heap[b]? = some o → (∀ cur, o ≠ .cells cur 60 (0, 0)) → w1.heap[b]? = some o := by
    intro b o hb hne
    have hlt : b < wr.heap.size := (Array.getElem?_eq_some_iff.1 hb).1
    rw [hg.block b (by simp; omega) (by
      intro e
      obtain ⟨_, _, cur, hc⟩ := hrow b e.symm
      rw [hb] at hc
      exact hne cur (Option.some.inj hc))]
    rw [Below.heap_alloc _ _ _ (by simp; omega), Below.heap_alloc _ _ _ hlt]
    exact hb
  have htr1 := hkeep T _ tr (by intro cur h; injection h with h1 h2; cases h2)
  have hsz1 : wr.heap.size + 2 ≤ w1.heap.size := by have := hg.size; simp at this; omega
  refine ⟨?_, ?_, hT, ?_, ?_, ?_⟩
  · refine Below.setCell ?_ hT _
    refine Below.grown ((below.alloc hB _).alloc (by simp; omega) _) hg (by simp; omega) (fun r hr => (hrow r hr).1)
  · simp [World.setCell]; omega
  · rw [heap_setCell_at _ _ _ _ _ _ htr1]
    rfl
  · rw [ptrs_succ]
    refine ⟨hown.1, ?_⟩
    rcases hown.2 with h | ⟨g, cap, cur, hv, hb, hgg, rest⟩
    · exact .inl h
    · refine .inr ⟨g, cap, cur, hv, hb, ?_, rest⟩
      rw [Below.heap_setCell _ _ _ _ (by
        intro e
        simp only at e
        subst e
        rw [htr1] at hgg
        simp at hgg)]
      exact hgg
  · intro i hi
    have hne : ∀ j, (if j = k then wr.heap.size else p j) = T → j < k + 1 → False := by
      intro j hj hjk
      by_cases e : j = k
      · simp [e] at hj; omega
      · simp [e] at hj
        have := tal j (by omega)
        rw [hj, tr] at this
        simp at this
    rw [Below.heap_setCell _ _ _ _ (by intro e; exact hne i (by simpa using e) hi)]
    by_cases e : i = k
    · subst e
      simp only [if_true]
      rw [hg.block wr.heap.size (by simp; omega) (by
        intro e
        have := (hrow _ e.symm).2.1
        omega)]
      rw [Below.heap_alloc _ _ _ (by simp), ho1]
      exact heap_alloc_new _ _
    · simp only [if_neg e]
      exact hkeep _ _ (tal i (by omega)) (by intro cur h; injection h with h1 h2; cases h2)

end Go.Proofs.Qxb6000476aMods
