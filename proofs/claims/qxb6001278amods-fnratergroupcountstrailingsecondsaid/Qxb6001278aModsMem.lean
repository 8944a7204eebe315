import Derived.Test.Qxb6001278aModsPlain
import Derived.WalkKit
import Derived.Below
namespace Go.Proofs.Qxb6001278aMods
open Go.RowKit

theorem blk_cell {w : World} {b i : Nat} {cs : Array Value} {t : TypeId} {v : Value} (h : w.heap[b]? = some (.cells cs t (0, 0))) (hv : cs[i]? = some v) : w.cell? ⟨b, i, none⟩ = some v := by
  simp [World.cell?, h, hv]
theorem blk_free {w : World} {b i : Nat} {cs : Array Value} {t : TypeId} (h : w.heap[b]? = some (.cells cs t (0, 0))) : w.frozen? ⟨b, i, none⟩ = false := by
  simp [World.frozen?, h]
theorem blk_lt {w : World} {b : Nat} {o : Obj} (h : w.heap[b]? = some o) : b < w.heap.size := (Array.getElem?_eq_some_iff.1 h).1
theorem heap_setCell_at (w : World) (b i : Nat) (v : Value) (cs : Array Value) (t : TypeId) (h : w.heap[b]? = some (.cells cs t (0, 0))) :
    (w.setCell ⟨b, i, none⟩ v).heap[b]? = some (.cells (cs.setIfInBounds i v) t (0, 0)) := by
  simp [World.setCell, Array.getElem?_modify, h]

/-- A split's cells. -/
def flat : List (Int × Int) → List Value
  | [] => []
  | x :: r => .int .i64 x.1 :: .int .u64 x.2 :: flat r

theorem flat_len : ∀ L, (flat L).length = L.length * 2
  | [] => rfl
  | x :: r => by simp only [flat, List.length_cons, flat_len r]; omega
theorem flat_append : ∀ (L M : List (Int × Int)), flat (L ++ M) = flat L ++ flat M
  | [], _ => rfl
  | x :: r, M => by simp only [List.cons_append, flat, flat_append r M]
theorem flat_get0 : ∀ (L : List (Int × Int)) (i : Nat) (x : Int × Int), L[i]? = some x → (flat L)[i * 2]? = some (.int .i64 x.1)
  | [], i, x, h => by simp at h
  | y :: r, 0, x, h => by simp at h; subst h; rfl
  | y :: r, i + 1, x, h => by
    have ih := flat_get0 r i x (by simpa using h)
    have e : (i + 1) * 2 = i * 2 + 1 + 1 := by omega
    rw [e]
    simpa [flat] using ih
theorem flat_get1 : ∀ (L : List (Int × Int)) (i : Nat) (x : Int × Int), L[i]? = some x → (flat L)[i * 2 + 1]? = some (.int .u64 x.2)
  | [], i, x, h => by simp at h
  | y :: r, 0, x, h => by simp at h; subst h; rfl
  | y :: r, i + 1, x, h => by
    have ih := flat_get1 r i x (by simpa using h)
    have e : (i + 1) * 2 + 1 = i * 2 + 1 + 1 + 1 := by omega
    rw [e]
    simpa [flat] using ih
theorem flat_set : ∀ (L : List (Int × Int)) (i : Nat) (g p q : Int), L[i]? = some (g, p) → (flat L).set (i * 2 + 1) (.int .u64 q) = flat (L.set i (g, q))
  | [], i, g, p, q, h => by simp at h
  | y :: r, 0, g, p, q, h => by simp at h; subst h; rfl
  | y :: r, i + 1, g, p, q, h => by
    have ih := flat_set r i g p q (by simpa using h)
    have e : (i + 1) * 2 + 1 = i * 2 + 1 + 1 + 1 := by omega
    rw [e]
    simp only [flat, List.set_cons_succ, ih]

/-- A rater in memory: block R; its split owned from block B on. -/
structure Rat (B R : Nat) (at_ : Int) (L : List (Int × Int)) (v : Value) (w : World) : Prop where
  blk : ∃ cs, w.heap[R]? = some (.cells cs 44 (0, 0)) ∧ cs[25]? = some v ∧ cs[26]? = some (.int .u64 at_)
  own : w.ownsRow B 46 2 v L.length (flat L)

/-- Below B all is as it was, but for block R. -/
structure KB (B R : Nat) (w w' : World) : Prop where
  os : w'.os = w.os
  tape : w'.tape = w.tape
  output : w'.output = w.output
  size : w.heap.size ≤ w'.heap.size
  block : ∀ k, k < B → k ≠ R → w'.heap[k]? = w.heap[k]?

theorem KB.refl (B R : Nat) (w : World) : KB B R w w := ⟨rfl, rfl, rfl, Nat.le_refl _, fun _ _ _ => rfl⟩
theorem KB.trans {B R : Nat} {a b c : World} (h : KB B R a b) (k : KB B R b c) : KB B R a c :=
  ⟨k.os.trans h.os, k.tape.trans h.tape, k.output.trans h.output, Nat.le_trans h.size k.size, fun i hi hr => (k.block i hi hr).trans (h.block i hi hr)⟩
theorem KB.cell {B R : Nat} {w w' : World} (h : KB B R w w') {p : Addr} (hp : p.block < B) (hr : p.block ≠ R) : w'.cell? p = w.cell? p := World.cell?_of_block (w := w) (h.block p.block hp hr)
theorem KB.below {B R : Nat} {w w' : World} (h : KB B R w w') {B' : Nat} (hB : B' ≤ B) (hR : B' ≤ R) : Below B' w w' :=
  ⟨h.os, h.tape, h.output, h.size, fun k hk => h.block k (by omega) (by omega)⟩

theorem Rat.facts {B R : Nat} {at_ : Int} {L : List (Int × Int)} {v : Value} {w : World} (h : Rat B R at_ L v w) :
    w.cell? ⟨R, 25, none⟩ = some v ∧ w.cell? ⟨R, 26, none⟩ = some (.int .u64 at_) ∧ w.frozen? ⟨R, 25, none⟩ = false ∧ w.frozen? ⟨R, 26, none⟩ = false ∧ R < w.heap.size := by
  obtain ⟨cs, h1, h2, h3⟩ := h.blk
  exact ⟨blk_cell h1 h2, blk_cell h1 h3, blk_free h1, blk_free h1, blk_lt h1⟩

/-- A rater that stands aside while another is written. -/
theorem Rat.aside {B B' R R' : Nat} {at_ : Int} {L : List (Int × Int)} {v : Value} {w w' : World} (h : Rat B R at_ L v w) (k : KB B' R' w w') (hR : R ≠ R') (hRB : R < B') (hB : ∀ g, v.ownBlock = some g → g < B') (hne : ∀ g, v.ownBlock = some g → g ≠ R') : Rat B R at_ L v w' := by
  obtain ⟨⟨cs, h1, h2, h3⟩, own⟩ := h
  refine ⟨⟨cs, by rw [k.block R hRB hR]; exact h1, h2, h3⟩, own.1, ?_⟩
  rcases own.2 with hn | ⟨g, cap, cur, rfl, hb, hg, rest⟩
  · exact .inl hn
  · refine .inr ⟨g, cap, cur, rfl, hb, ?_, rest⟩
    rw [k.block g (hB g rfl) (hne g rfl)]
    exact hg

/-- The append and the store of the new split. -/
theorem rat_append {B R : Nat} {at_ : Int} {L : List (Int × Int)} {v v' : Value} {w w1 : World} {o : Obj} {g : Int} (hR : R < B) (hB : B ≤ w.heap.size) (h : Rat B R at_ L v w)
    (hown : w1.ownsRow B 46 2 v' (L.length + 1) (flat L ++ [.int .i64 g, .int .u64 1])) (hg : World.grownBy (w.alloc o) w1 v.ownBlock) :
    (Rat B R at_ (L ++ [(g, 1)]) v' (w1.setCell ⟨R, 25, none⟩ v') ∧ KB B R w (w1.setCell ⟨R, 25, none⟩ v')) ∧ (w1.cell? ⟨R, 25, none⟩ = some v ∧ w1.frozen? ⟨R, 25, none⟩ = false ∧ R < w1.heap.size) := by
  obtain ⟨⟨cs, h1, h2, h3⟩, own⟩ := h
  have hlow : ∀ k, k < B → w1.heap[k]? = w.heap[k]? := by
    intro k hk
    rw [hg.block k (by simp; omega) (by
      intro e
      have := own.lt k e.symm
      omega)]
    exact Below.heap_alloc _ _ _ (by omega)
  have hR1 : w1.heap[R]? = some (.cells cs 44 (0, 0)) := by rw [hlow R hR]; exact h1
  have h25 : 25 < cs.size := by
    have := (Array.getElem?_eq_some_iff.1 h2).1
    exact this
  refine ⟨⟨⟨⟨cs.setIfInBounds 25 v', heap_setCell_at _ _ _ _ _ _ hR1, ?_, ?_⟩, ?_⟩, ?_⟩, blk_cell hR1 h2, blk_free hR1, blk_lt hR1⟩
  · simp [h25]
  · rw [Array.getElem?_setIfInBounds, if_neg (by omega)]; exact h3
  · have e : flat (L ++ [(g, 1)]) = flat L ++ [.int .i64 g, .int .u64 1] := by rw [flat_append]; rfl
    rw [e, List.length_append]
    exact ownsRow_setCell_below hown hR _
  · refine ⟨hg.os, hg.tape, hg.output, ?_, ?_⟩
    · have := hg.size
      simp [World.setCell] at this ⊢
      omega
    · intro k hk hne
      rw [Below.heap_setCell _ _ _ _ hne]
      exact hlow k hk

/-- The raising of one entry. -/
theorem rat_raise {B R : Nat} {at_ : Int} {L : List (Int × Int)} {g0 cap i : Nat} {w : World} {g p : Int} (hR : R < B) (h : Rat B R at_ L (.slice (some ⟨g0, 0, none⟩) L.length cap) w) (hi : L[i]? = some (g, p)) :
    Rat B R at_ (L.set i (g, p + 1)) (.slice (some ⟨g0, 0, none⟩) L.length cap) (w.setCell ⟨g0, i * 2 + 1, none⟩ (.int .u64 (p + 1))) ∧ KB B R w (w.setCell ⟨g0, i * 2 + 1, none⟩ (.int .u64 (p + 1))) := by
  obtain ⟨⟨cs, h1, h2, h3⟩, own⟩ := h
  have hst := own.stored (i * 2 + 1) (.int .u64 (p + 1))
  have hlt := own.lt g0 rfl
  refine ⟨⟨⟨cs, ?_, h2, h3⟩, ?_⟩, ?_⟩
  · rw [Below.heap_setCell _ _ _ _ (by simp only; omega)]; exact h1
  · have := hst.1
    rw [flat_set L i g p (p + 1) hi] at this
    rw [List.length_set]
    exact this
  · refine ⟨rfl, rfl, rfl, by simp [World.setCell], fun k hk _ => Below.heap_setCell _ _ _ _ (by simp only; omega)⟩

end Go.Proofs.Qxb6001278aMods
