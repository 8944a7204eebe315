import Derived.Test.Qxb6000476aModsSeat
namespace Go.Proofs.Qxb6000476aMods
open Go.RowKit
set_option linter.unusedVariables false

/-- The map's block through a round of the making. -/
theorem enInv_map {w0 wr w1 : World} {B T M : Nat} {needed : Int} {f : Nat → Int} {k : Nat} {p : Nat → Nat} {v v' : Value} {o1 o2 : Obj}
    (h : EnInv w0 B T M needed f k p v wr) (hm : wr.heap[M]? = some (.map #[] 0)) (hg : World.grownBy ((wr.alloc o1).alloc o2) w1 v.ownBlock) :
    (w1.setCell ⟨T, 3, none⟩ v').heap[M]? = some (.map #[] 0) := by
  have hlt := blk_lt hm
  rw [Below.heap_setCell _ _ _ _ (by intro e; simp only at e; subst e; rw [h.tr] at hm; cases hm)]
  rw [hg.block M (by simp; omega) (by
    intro e
    rcases h.own.2 with ⟨rfl, _⟩ | ⟨g, cap, cur, rfl, hb, hgg, _⟩
    · simp [Value.ownBlock] at e
    · simp [Value.ownBlock] at e
      subst e
      rw [hm] at hgg
      cases hgg)]
  rw [Below.heap_alloc _ _ _ (by simp; omega), Below.heap_alloc _ _ _ hlt]
  exact hm

theorem enInv_inj {w0 wr : World} {B T M : Nat} {needed : Int} {f : Nat → Int} {k : Nat} {p : Nat → Nat} {v : Value}
    (h : EnInv w0 B T M needed f k p v wr) (hi : ∀ i j, i < k → j < k → p i = p j → i = j) (hp : ∀ i, i < k → B ≤ p i) :
    (∀ i j, i < k + 1 → j < k + 1 → (if i = k then wr.heap.size else p i) = (if j = k then wr.heap.size else p j) → i = j) ∧ (∀ i, i < k + 1 → B ≤ (if i = k then wr.heap.size else p i)) := by
  have hlt : ∀ i, i < k → p i < wr.heap.size := fun i hi => blk_lt (h.tal i hi)
  constructor
  · intro i j h1 h2 e
    by_cases e1 : i = k <;> by_cases e2 : j = k
    · omega
    · simp [e1, e2] at e; have := hlt j (by omega); omega
    · simp [e1, e2] at e; have := hlt i (by omega); omega
    · simp [e1, e2] at e; exact hi i j (by omega) (by omega) e
  · intro i h1
    by_cases e1 : i = k
    · simp [e1]; exact h.hB
    · simp [e1]; exact hp i (by omega)

/-- What ZZNewTracker leaves. -/
def NewPost (n : Nat) (w : World) (e : Ending) (w' : World) : Prop :=
  ∃ l : Lay, e = .returned (.pointer (some ⟨l.T, 0, none⟩)) ∧ l.n = n ∧ Trk w.heap.size l (fun _ => 0) (fun _ => 0) (fun _ => 0) (fun _ => none) w' ∧ Below w.heap.size w w'

theorem drew_grown {a w1 : World} {r : Option Nat} (h : World.grownBy a w1 r) : World.grownBy a.drew w1 r := ⟨h.os, h.tape, h.output, h.size, h.block⟩

theorem one_at' (wr : World) (o1 : Obj) (x : Value) (e : TypeId) : ∀ (j : Nat) u, [x][j]? = some u → ((wr.alloc o1).alloc (.cells #[x] e)).cell? ((⟨wr.heap.size + 1, 0, none⟩ : Addr).add j) = some u := by
  intro j u hj
  match j, hj with
  | 0, hj =>
    simp at hj; subst hj
    simp [Addr.add]
theorem sz2' (wr : World) (o1 o2 : Obj) (B : Nat) (h : B ≤ wr.heap.size) : B ≤ ((wr.alloc o1).alloc o2).heap.size := by
  show B ≤ ((wr.heap.push o1).push o2).size
  simp; omega

set_option maxHeartbeats 1000000 in
theorem newTracker_any (n : Nat) (w : World) (hn0 : 0 < n) (hn : n ≤ 255) :
    Calls Trym.prog 33 #[.int .u8 n] w fun e w' => NewPost n w e w' := by
  obtain ⟨i0, hi, hz0, hz1, hz2⟩ := info_parts Trym.info60
  have hmm := @run_makeMap Trym.prog
  go_enter Trym.func33, Trym.ntmps33
  go_wp2
  go_loopw [4] (fun i wr => ∃ (k : Nat) (p : Nat → Nat) (v : Value), k ≤ n ∧ i = .int .i64 k ∧ EnInv w w.heap.size (w.heap.size + 1) w.heap.size 0 (fun _ => 0) k p v wr ∧ wr.heap[w.heap.size]? = some (.map #[] 0) ∧
    (∀ i j, i < k → j < k → p i = p j → i = j) ∧ (∀ i, i < k → w.heap.size ≤ p i)) (fun i _ => n - (intOf i).toNat)
  case atStart =>
    refine ⟨0, fun _ => 0, .slice none 0 0, Nat.zero_le _, rfl, ⟨?_, ?_, ?_, ?_, ?_, ?_⟩, ?_, ?_, ?_⟩
    · exact ((Below.refl _ _).alloc (Nat.le_refl _) _).alloc (by simp) _
    · simp; omega
    · omega
    · have := heap_alloc_new (w.alloc (.map #[] 0)) (.cells #[.int .u32 0, .int .u64 0, .map (some w.heap.size), .slice none 0 0, .slice none 0 0] 59)
      simpa using this
    · exact World.ownsRow_nil _ _ _ _
    · intro i hi; omega
    · rw [Below.heap_alloc _ _ _ (by simp)]; exact heap_alloc_new _ _
    · intro i j hi; omega
    · intro i hi; omega
  case round =>
    obtain ⟨k, p, v, hk, rfl, hinv, hmap, hinj, hpB⟩ := hrel
    have HI : Hid (EnInv w w.heap.size (w.heap.size + 1) w.heap.size 0 (fun _ => 0) k p v wr) := hinv
    have HM : Hid (wr.heap[w.heap.size]? = some (.map #[] 0)) := hmap
    have HJ := enInv_inj hinv hinj hpB
    have HJ' : Hid ((∀ i j, i < k + 1 → j < k + 1 → (if i = k then wr.heap.size else p i) = (if j = k then wr.heap.size else p j) → i = j) ∧ (∀ i, i < k + 1 → w.heap.size ≤ (if i = k then wr.heap.size else p i))) := HJ
    have HJ0 : Hid ((∀ i j, i < k → j < k → p i = p j → i = j) ∧ ∀ i, i < k → w.heap.size ≤ p i) := ⟨hinj, hpB⟩
    clear HJ hmap hinj hpB
    by_cases hlt : k < n
    · have hT : wr.cell? ⟨w.heap.size + 1, 3, none⟩ = some v := cell_blk (i := 3) hinv.tr rfl
      have hTlt : w.heap.size + 1 < wr.heap.size := (Array.getElem?_eq_some_iff.1 hinv.tr).1
      have hTl2 : w.heap.size < wr.heap.size := by omega
      have HO : Hid (wr.ownsRow w.heap.size 60 1 v k (ptrs p k)) := hinv.own
      have hwk : IntKind.u32.wrap (k : Int) = (k : Int) := by rw [IntKind.wrap_u32]; omega
      clear hinv
      go_wp2_with (at_builtin; refine wpList_append_own _ rfl (.tmp 18) (.tmp 23) 55 rfl w.heap.size 60 i0 (.pointer none) 1 8 Trym.underlying55 hi hz0 hz1 hz2 rfl (by decide) v k (ptrs p k) rfl ((HO.out.alloc _).alloc _) ⟨wr.heap.size + 1, 0, none⟩ 1 1 [.pointer (some ⟨wr.heap.size, 0, none⟩)] rfl rfl ?c1 ?c2 ?c3 ?c4 ?c5 ?_)
      case c1 => exact one_at' _ _ _ _
      case c2 => exact one_one _
      case c3 => unfold maxLen; omega
      case c4 => omega
      case c5 => exact sz2' _ _ _ _ (by omega)
      intro v' w1 hown' hgrow _
      obtain ⟨g, cap', hv'⟩ := own_some hown'
      rw [hv'] at hown' ⊢
      have hinv2 := enInv_step HI.out rfl hown' (drew_grown hgrow)
      have hmap2 := enInv_map (v' := .slice (some ⟨g, 0, none⟩) (k + 1) cap') HI.out HM.out hgrow
      obtain ⟨hT2, hT3, hT4⟩ := setCell_facts HI.out (drew_grown hgrow)
      have HI2 := (show Hid _ from hinv2)
      have HM2 := (show Hid _ from hmap2)
      clear hown' hgrow hinv2 hmap2
      go_wp2
      go_roundw
      case rel => exact ⟨k + 1, _, _, by omega, by go_num, HI2.out, HM2.out, HJ'.out.1, HJ'.out.2⟩
      case measure => simp [intOf]; omega
    · obtain rfl : k = n := by omega
      clear hinv
      go_wp2
      go_ret
      have hinv := HI.out
      rcases hinv.own.2 with ⟨hv, hk0⟩ | ⟨g, cap, cur, hv, hgb, hgg, hkc, hcm, hcs, hct⟩
      · omega
      · subst hv
        refine ⟨⟨w.heap.size + 1, w.heap.size, g, k, cap, p⟩, rfl, rfl, ⟨fun _ => none, ?_⟩, hinv.below⟩
        refine ⟨by simp, by simp, HJ0.out.2, (by intro v b h; cases h), hinv.tr, ⟨cur, hgg, ?_⟩, hinv.tal, HJ0.out.1, ⟨#[], 0, HM.out, mapIs_empty⟩, (by intro v b h; cases h), (fun _ _ => rfl), (by intro u v b h; cases h)⟩
        intro i hi
        have hx := ptrs_get p k i hi
        rw [← hct, List.getElem?_take] at hx
        rw [if_pos (by simp only at hi; omega)] at hx
        simpa using hx

end Go.Proofs.Qxb6000476aMods
