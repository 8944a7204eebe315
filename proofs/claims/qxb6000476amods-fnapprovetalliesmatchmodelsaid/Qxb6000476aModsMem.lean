import Derived.Test.Qxb6000476aModsRows
import Derived.Test.Qxb6000476aModsTrk
import Derived.Test.Qxb6000476aModsHeap
import Derived.MapKept
import Derived.WalkKit
namespace Go.Proofs.Qxb6000476aMods
open Go.RowKit

/-- A block's cell and mark. -/
theorem blk_cell {w : World} {b i : Nat} {cs : Array Value} {t : TypeId} {v : Value} (h : w.heap[b]? = some (.cells cs t (0, 0))) (hv : cs[i]? = some v) : w.cell? ⟨b, i, none⟩ = some v := by
  simp [World.cell?, h, hv]
theorem blk_free {w : World} {b i : Nat} {cs : Array Value} {t : TypeId} (h : w.heap[b]? = some (.cells cs t (0, 0))) : w.frozen? ⟨b, i, none⟩ = false := by
  simp [World.frozen?, h]
theorem blk_lt {w : World} {b : Nat} {o : Obj} (h : w.heap[b]? = some o) : b < w.heap.size := (Array.getElem?_eq_some_iff.1 h).1

/-- The element types of the law's own plain rows: int, bool, uint32. -/
def plainE (e : TypeId) : Prop := e = 3 ∨ e = 4 ∨ e = 22

/-- The map's entries: key v leads to block c v. -/
def MapIs (es : Array MapEntry) (c : Int → Option Nat) : Prop :=
  (∀ e ∈ es.toList, ∃ v b, e.key = .int .u32 v ∧ e.val = .pointer (some ⟨b, 0, none⟩) ∧ c v = some b) ∧
  (∀ v b, c v = some b → ∃ e ∈ es.toList, e.key = .int .u32 v)

theorem mapIs_empty : MapIs #[] (fun _ => none) := by
  constructor
  · intro e he; simp at he
  · intro v b h; cases h

theorem mapIs_isKey {es : Array MapEntry} {c : Int → Option Nat} (h : MapIs es c) : ∀ x ∈ es.toList, MapKept.IsKey (.int .u32) x.key := by
  intro x hx
  obtain ⟨v, b, hk, _⟩ := h.1 x hx
  rw [hk]; simp [MapKept.IsKey]

theorem run_lookup54 {w : World} {M : Nat} {es : Array MapEntry} {clock : Nat} {c : Int → Option Nat} (hb : w.heap[M]? = some (.map es clock)) (h : MapIs es c) (v : Int) :
    (Instr.lookup 54 (.map (some M)) (.int .u32 v) true).run Trym.prog w = .ok (.tuple #[.pointer ((c v).map fun b => ⟨b, 0, none⟩), .bool (c v).isSome]) w := by
  have hkey : MapKept.IsKey (.int .u32) (.int .u32 v) := by simp [MapKept.IsKey]
  rcases MapKept.findNow_spec hkey es.toList 0 (mapIs_isKey h) with ⟨h1, h2⟩ | ⟨j, e, h1, h2, h3⟩
  · have hc : c v = none := by
      cases hcv : c v with
      | none => rfl
      | some b =>
        obtain ⟨e, he, hk⟩ := h.2 v b hcv
        exact absurd hk (h2 e he)
    simp [Instr.lookup, run_underlying Trym.underlying54, MapKept.run_getObj_map hb, MapKept.run_checkKey Trym.underlying22 hkey, MapKept.run_findKey Trym.underlying22 h1, hc, Result.andThen]
  · obtain ⟨v', b, hk, hv, hcv⟩ := h.1 e (List.mem_of_getElem? h2)
    rw [h3] at hk
    cases hk
    simp [Instr.lookup, run_underlying Trym.underlying54, MapKept.run_getObj_map hb, MapKept.run_checkKey Trym.underlying22 hkey, MapKept.run_findKey Trym.underlying22 h1, hcv, hv, Result.andThen]

theorem run_update54 {w : World} {M : Nat} {es : Array MapEntry} {clock : Nat} {c : Int → Option Nat} (hb : w.heap[M]? = some (.map es clock)) (h : MapIs es c) (v : Int) (hcv : c v = none) (x : Value) :
    (Instr.mapUpdate 54 (.map (some M)) (.int .u32 v) x).run Trym.prog w = .ok () { w with heap := w.heap.setIfInBounds M (.map (es.push { key := .int .u32 v, val := x, born := clock }) (clock + 1)) } := by
  have hkey : MapKept.IsKey (.int .u32) (.int .u32 v) := by simp [MapKept.IsKey]
  rcases MapKept.findNow_spec hkey es.toList 0 (mapIs_isKey h) with ⟨h1, h2⟩ | ⟨j, e, h1, h2, h3⟩
  · simp [Instr.mapUpdate, run_underlying Trym.underlying54, MapKept.run_getObj_map hb, MapKept.run_checkKey Trym.underlying22 hkey, MapKept.run_findKey Trym.underlying22 h1, MapKept.run_setObj_map _ hb, Result.andThen]
  · obtain ⟨v', b, hk, hv, hcv'⟩ := h.1 e (List.mem_of_getElem? h2)
    rw [h3] at hk
    cases hk
    rw [hcv] at hcv'
    cases hcv'

theorem mapIs_push {es : Array MapEntry} {c : Int → Option Nat} (h : MapIs es c) (v : Int) (b n : Nat) (hv : c v = none) :
    MapIs (es.push { key := .int .u32 v, val := .pointer (some ⟨b, 0, none⟩), born := n }) (fun u => if u = v then some b else c u) := by
  constructor
  · intro e he
    simp at he
    rcases he with he | rfl
    · obtain ⟨v', b', hk, hx, hc⟩ := h.1 e (by simpa using he)
      refine ⟨v', b', hk, hx, ?_⟩
      have : ¬ v' = v := fun e => by rw [e, hv] at hc; cases hc
      simp [this, hc]
    · exact ⟨v, b, rfl, rfl, by simp⟩
  · intro u b' hu
    by_cases e : u = v
    · exact ⟨{ key := .int .u32 v, val := .pointer (some ⟨b, 0, none⟩), born := n }, by simp, by rw [e]⟩
    · simp [e] at hu
      obtain ⟨x, hx, hk⟩ := h.2 u b' hu
      exact ⟨x, by simp at hx ⊢; exact .inl hx, hk⟩

/-- Where a tracker lies. -/
structure Lay where
  T : Nat
  M : Nat
  g : Nat
  n : Nat
  cap : Nat
  p : Nat → Nat

def tp (p : Nat → Nat) (k : Option Nat) : Value := .pointer (k.map fun j => ⟨p j, 0, none⟩)

/-- A tracker in memory: its tranches' counts C, A, N; its validators by F: the tranche, approved, late. -/
structure TrkC (B : Nat) (l : Lay) (C A N : Nat → Int) (c : Int → Option Nat) (F : Int → Option (Option Nat × Bool × Bool)) (w : World) : Prop where
  hT : B ≤ l.T
  hM : B ≤ l.M
  hp : ∀ i, i < l.n → B ≤ l.p i
  hc : ∀ v b, c v = some b → B ≤ b
  tr : w.heap[l.T]? = some (.cells #[.int .u32 0, .int .u64 0, .map (some l.M), .slice (some ⟨l.g, 0, none⟩) l.n l.cap, .slice none 0 0] 59 (0, 0))
  row : ∃ cur, w.heap[l.g]? = some (.cells cur 60 (0, 0)) ∧ ∀ i, i < l.n → cur[i]? = some (.pointer (some ⟨l.p i, 0, none⟩))
  tal : ∀ i, i < l.n → w.heap[l.p i]? = some (.cells #[.int .u32 i, .int .i64 (C i), .int .i64 (A i), .int .i64 (N i)] 62 (0, 0))
  pinj : ∀ i j, i < l.n → j < l.n → l.p i = l.p j → i = j
  mp : ∃ es clock, w.heap[l.M]? = some (.map es clock) ∧ MapIs es c
  chk : ∀ v b, c v = some b → ∃ k ap late, F v = some (k, ap, late) ∧ w.heap[b]? = some (.cells #[tp l.p k, .int .u64 0, .bool ap, .bool late] 70 (0, 0)) ∧ ∀ j, k = some j → j < l.n
  non : ∀ v, c v = none → F v = none
  cinj : ∀ u v b, c u = some b → c v = some b → u = v

def Trk (B : Nat) (l : Lay) (C A N : Nat → Int) (F : Int → Option (Option Nat × Bool × Bool)) (w : World) : Prop := ∃ c, TrkC B l C A N c F w

/-- An object that is no plain row. -/
def NotPlain (o : Obj) : Prop := ∀ arr e fr, o = .cells arr e fr → ¬ plainE e

/-- A tracker hangs on the blocks that are no plain rows. -/
theorem TrkC.carry {B : Nat} {l : Lay} {C A N : Nat → Int} {c : Int → Option Nat} {F : Int → Option (Option Nat × Bool × Bool)} {w w' : World} (h : TrkC B l C A N c F w)
    (hw : ∀ (b : Nat) (o : Obj), NotPlain o → w.heap[b]? = some o → w'.heap[b]? = some o) : TrkC B l C A N c F w' := by
  have np : ∀ (cs : Array Value) (e : TypeId) fr, (e = 59 ∨ e = 60 ∨ e = 62 ∨ e = 70) → NotPlain (.cells cs e fr) := by
    intro cs e fr he arr e' fr' heq
    cases heq
    unfold plainE
    rintro (rfl | rfl | rfl) <;> simp at he
  obtain ⟨a1, a2, a4, a5, a6, ⟨cur, a7, a8⟩, a9, a10, ⟨es, cl, a11, a12⟩, a13, a14, a15⟩ := h
  refine ⟨a1, a2, a4, a5, hw _ _ (np _ _ _ (by simp)) a6, ⟨cur, hw _ _ (np _ _ _ (by simp)) a7, a8⟩, fun i hi => hw _ _ (np _ _ _ (by simp)) (a9 i hi), a10, ⟨es, cl, hw _ _ (by intro a b c h; cases h) a11, a12⟩, ?_, a14, a15⟩
  intro v b hb
  obtain ⟨k, ap, late, h1, h2, h3⟩ := a13 v b hb
  exact ⟨k, ap, late, h1, hw _ _ (np _ _ _ (by simp)) h2, h3⟩

theorem Trk.carry {B : Nat} {l : Lay} {C A N : Nat → Int} {F : Int → Option (Option Nat × Bool × Bool)} {w w' : World} (h : Trk B l C A N F w)
    (hw : ∀ (b : Nat) (o : Obj), NotPlain o → w.heap[b]? = some o → w'.heap[b]? = some o) : Trk B l C A N F w' := by
  obtain ⟨c, h⟩ := h
  exact ⟨c, h.carry hw⟩

theorem Trk.alloc {B : Nat} {l : Lay} {C A N : Nat → Int} {F : Int → Option (Option Nat × Bool × Bool)} {w : World} (h : Trk B l C A N F w) (o : Obj) : Trk B l C A N F (w.alloc o) :=
  h.carry fun b x _ hb => by rw [Below.heap_alloc _ _ _ (blk_lt hb)]; exact hb

theorem Trk.setPlain {B : Nat} {l : Lay} {C A N : Nat → Int} {F : Int → Option (Option Nat × Bool × Bool)} {w : World} (h : Trk B l C A N F w) {b i : Nat} {arr : Array Value} {e : TypeId} (he : plainE e)
    (hb : w.heap[b]? = some (.cells arr e (0, 0))) (v : Value) : Trk B l C A N F (w.setCell ⟨b, i, none⟩ v) :=
  h.carry fun b' x hx hb' => by
    rw [Below.heap_setCell _ _ _ _ (by
      intro e'
      simp only at e'
      subst e'
      rw [hb] at hb'
      cases hb'
      exact hx _ _ _ rfl he)]
    exact hb'

/-- What a step on the tracker leaves alone: all below B, and every plain row. -/
structure Fr (B : Nat) (w w' : World) : Prop where
  below : Below B w w'
  plain : ∀ (b : Nat) (arr : Array Value) (e : TypeId), plainE e → w.heap[b]? = some (.cells arr e (0, 0)) → w'.heap[b]? = some (.cells arr e (0, 0))

theorem Fr.refl (B : Nat) (w : World) : Fr B w w := ⟨Below.refl _ _, fun _ _ _ _ h => h⟩
theorem Fr.trans {B : Nat} {a b c : World} (h : Fr B a b) (k : Fr B b c) : Fr B a c := ⟨h.below.trans k.below, fun x arr e he hx => k.plain x arr e he (h.plain x arr e he hx)⟩
theorem Fr.alloc {B : Nat} {a w : World} (h : Fr B a w) (hB : B ≤ w.heap.size) (o : Obj) : Fr B a (w.alloc o) :=
  ⟨h.below.alloc hB o, fun b arr e he hb => by rw [Below.heap_alloc _ _ _ (blk_lt (h.plain b arr e he hb))]; exact h.plain b arr e he hb⟩

/-- A store into a block that is no plain row. -/
theorem Fr.setCell {B : Nat} {a w : World} (h : Fr B a w) {b i : Nat} {arr : Array Value} {e : TypeId} (hb : w.heap[b]? = some (.cells arr e (0, 0))) (he : ¬ plainE e) (hB : B ≤ b) (v : Value) : Fr B a (w.setCell ⟨b, i, none⟩ v) :=
  ⟨h.below.setCell hB v, fun b' arr' e' he' hb' => by
    rw [Below.heap_setCell _ _ _ _ (by
      intro q
      simp only at q
      subst q
      have := h.plain _ _ _ he' hb'
      rw [hb] at this
      cases this
      exact he he')]
    exact h.plain _ _ _ he' hb'⟩

theorem Fr.setMap {B : Nat} {a w : World} (h : Fr B a w) {M : Nat} {es : Array MapEntry} {cl : Nat} (hb : w.heap[M]? = some (.map es cl)) (hB : B ≤ M) (o : Obj) :
    Fr B a { w with heap := w.heap.setIfInBounds M o } := by
  have hne : ∀ k, k ≠ M → (w.heap.setIfInBounds M o)[k]? = w.heap[k]? := (MapKept.heap_set hb).2
  refine ⟨⟨h.below.os, h.below.tape, h.below.output, by simpa using h.below.size, ?_⟩, ?_⟩
  · intro k hk
    show (w.heap.setIfInBounds M o)[k]? = _
    rw [hne k (by omega)]
    exact h.below.block k hk
  · intro b arr e he hx
    show (w.heap.setIfInBounds M o)[b]? = _
    have hx' := h.plain b arr e he hx
    rw [hne b (by intro q; subst q; rw [hb] at hx'; cases hx')]
    exact hx'

theorem np59 : ¬ plainE 59 := by unfold plainE; decide
theorem np60 : ¬ plainE 60 := by unfold plainE; decide
theorem np62 : ¬ plainE 62 := by unfold plainE; decide
theorem np70 : ¬ plainE 70 := by unfold plainE; decide

/-- One tranche's counts are written. -/
theorem TrkC.putTal {B : Nat} {l : Lay} {C A N C' A' N' : Nat → Int} {c : Int → Option Nat} {F : Int → Option (Option Nat × Bool × Bool)} {w w' : World} (h : TrkC B l C A N c F w) {k : Nat} (hk : k < l.n)
    (hblk : w'.heap[l.p k]? = some (.cells #[.int .u32 k, .int .i64 (C' k), .int .i64 (A' k), .int .i64 (N' k)] 62 (0, 0))) (hne : ∀ b : Nat, b ≠ l.p k → w'.heap[b]? = w.heap[b]?)
    (hC : ∀ i, i ≠ k → C' i = C i) (hA : ∀ i, i ≠ k → A' i = A i) (hN : ∀ i, i ≠ k → N' i = N i) : TrkC B l C' A' N' c F w' := by
  have hold := h.tal k hk
  obtain ⟨a1, a2, a4, a5, a6, ⟨cur, a7, a8⟩, a9, a10, ⟨es, cl, a11, a12⟩, a13, a14, a15⟩ := h
  refine ⟨a1, a2, a4, a5, ?_, ⟨cur, ?_, a8⟩, ?_, a10, ⟨es, cl, ?_, a12⟩, ?_, a14, a15⟩
  · rw [hne _ (by intro q; rw [q, hold] at a6; simp at a6)]; exact a6
  · rw [hne _ (by intro q; rw [q, hold] at a7; simp at a7)]; exact a7
  · intro i hi
    by_cases e : i = k
    · subst e; exact hblk
    · rw [hne _ (by intro q; exact e (a10 i k hi hk q)), hC i e, hA i e, hN i e]
      exact a9 i hi
  · rw [hne _ (by intro q; rw [q, hold] at a11; cases a11)]; exact a11
  · intro v b hb
    obtain ⟨q, ap, late, h1, h2, h3⟩ := a13 v b hb
    refine ⟨q, ap, late, h1, ?_, h3⟩
    rw [hne _ (by intro q; rw [q, hold] at h2; simp at h2)]; exact h2

/-- One validator is approved. -/
theorem TrkC.putChk {B : Nat} {l : Lay} {C A N : Nat → Int} {c : Int → Option Nat} {F : Int → Option (Option Nat × Bool × Bool)} {w w' : World} (h : TrkC B l C A N c F w) {v : Int} {b : Nat} {k : Option Nat} {ap late : Bool}
    (hcv : c v = some b) (hF : F v = some (k, ap, late)) (hblk : w'.heap[b]? = some (.cells #[tp l.p k, .int .u64 0, .bool true, .bool late] 70 (0, 0))) (hne : ∀ b' : Nat, b' ≠ b → w'.heap[b']? = w.heap[b']?) :
    TrkC B l C A N c (fun u => if u = v then some (k, true, late) else F u) w' := by
  obtain ⟨a1, a2, a4, a5, a6, ⟨cur, a7, a8⟩, a9, a10, ⟨es, cl, a11, a12⟩, a13, a14, a15⟩ := h
  obtain ⟨k0, ap0, late0, f1, hold, f3⟩ := a13 v b hcv
  rw [hF] at f1
  cases f1
  refine ⟨a1, a2, a4, a5, ?_, ⟨cur, ?_, a8⟩, ?_, a10, ⟨es, cl, ?_, a12⟩, ?_, ?_, a15⟩
  · rw [hne _ (by intro q; rw [q, hold] at a6; simp at a6)]; exact a6
  · rw [hne _ (by intro q; rw [q, hold] at a7; simp at a7)]; exact a7
  · intro i hi
    have := a9 i hi
    rw [hne _ (by intro q; rw [q, hold] at this; simp at this)]; exact this
  · rw [hne _ (by intro q; rw [q, hold] at a11; cases a11)]; exact a11
  · intro u b' hb'
    by_cases e : u = v
    · subst e
      rw [hcv] at hb'
      cases hb'
      exact ⟨k, true, late, by simp, hblk, f3⟩
    · obtain ⟨q, ap, late, h1, h2, h3⟩ := a13 u b' hb'
      refine ⟨q, ap, late, by simp [e, h1], ?_, h3⟩
      rw [hne _ (by intro q; subst q; exact e (a15 u v b' hb' hcv))]; exact h2
  · intro u hu
    have : ¬ u = v := by intro e; rw [e, hcv] at hu; cases hu
    simp [this, a14 u hu]

/-- A validator is added: a new block, a new entry. -/
theorem TrkC.addChk {B : Nat} {l : Lay} {C A N : Nat → Int} {c : Int → Option Nat} {F : Int → Option (Option Nat × Bool × Bool)} {w : World} (h : TrkC B l C A N c F w) (hB : B ≤ w.heap.size) {v : Int} {k : Option Nat} {ap late : Bool}
    (hcv : c v = none) (hk : ∀ j, k = some j → j < l.n) {es : Array MapEntry} {clock : Nat} (hm : w.heap[l.M]? = some (.map es clock)) (hes : MapIs es c) {w' : World}
    (hw' : w'.heap = (w.heap.push (.cells #[tp l.p k, .int .u64 0, .bool ap, .bool late] 70)).setIfInBounds l.M (.map (es.push { key := .int .u32 v, val := .pointer (some ⟨w.heap.size, 0, none⟩), born := clock }) (clock + 1))) :
    TrkC B l C A N (fun u => if u = v then some w.heap.size else c u) (fun u => if u = v then some (k, ap, late) else F u) w' := by
  have hMlt := blk_lt hm
  have hnew : w'.heap[w.heap.size]? = some (.cells #[tp l.p k, .int .u64 0, .bool ap, .bool late] 70 (0, 0)) := by
    rw [hw', Array.getElem?_setIfInBounds, if_neg (by omega)]
    simp
  have hmap : w'.heap[l.M]? = some (.map (es.push { key := .int .u32 v, val := .pointer (some ⟨w.heap.size, 0, none⟩), born := clock }) (clock + 1)) := by
    rw [hw', Array.getElem?_setIfInBounds, if_pos rfl]
    simp; omega
  have hold : ∀ (b : Nat) (o : Obj), b ≠ l.M → w.heap[b]? = some o → w'.heap[b]? = some o := by
    intro b o hne hb
    have := blk_lt hb
    rw [hw', Array.getElem?_setIfInBounds, if_neg (fun e => hne e.symm), Array.getElem?_push, if_neg (by omega)]
    exact hb
  obtain ⟨a1, a2, a4, a5, a6, ⟨cur, a7, a8⟩, a9, a10, _, a13, a14, a15⟩ := h
  have ltc : ∀ u b, c u = some b → b < w.heap.size := by
    intro u b hb
    obtain ⟨_, _, _, _, h2, _⟩ := a13 u b hb
    exact blk_lt h2
  refine ⟨a1, a2, a4, ?_, ?_, ⟨cur, ?_, a8⟩, ?_, a10, ⟨_, _, hmap, mapIs_push hes v _ _ hcv⟩, ?_, ?_, ?_⟩
  · intro u b hu
    by_cases e : u = v
    · simp [e] at hu; omega
    · simp [e] at hu; exact a5 u b hu
  · exact hold _ _ (by intro q; rw [q, hm] at a6; cases a6) a6
  · exact hold _ _ (by intro q; rw [q, hm] at a7; cases a7) a7
  · intro i hi
    have := a9 i hi
    exact hold _ _ (by intro q; rw [q, hm] at this; cases this) this
  · intro u b hu
    by_cases e : u = v
    · simp [e] at hu
      subst hu
      exact ⟨k, ap, late, by simp [e], hnew, hk⟩
    · simp [e] at hu
      obtain ⟨q, ap, late, h1, h2, h3⟩ := a13 u b hu
      exact ⟨q, ap, late, by simp [e, h1], hold _ _ (by intro q; rw [q, hm] at h2; cases h2) h2, h3⟩
  · intro u hu
    by_cases e : u = v
    · simp [e] at hu
    · simp [e] at hu
      simp [e, a14 u hu]
  · intro x y b hx hy
    by_cases e1 : x = v <;> by_cases e2 : y = v
    · rw [e1, e2]
    · simp [e1] at hx; simp [e2] at hy
      have := ltc y b hy
      omega
    · simp [e1] at hx; simp [e2] at hy
      have := ltc x b hx
      omega
    · simp [e1] at hx; simp [e2] at hy
      exact a15 x y b hx hy

end Go.Proofs.Qxb6000476aMods
