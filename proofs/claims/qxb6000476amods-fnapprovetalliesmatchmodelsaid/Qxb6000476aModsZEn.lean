import Derived.Test.Qxb6000476aModsClone
import Derived.Test.Qxb6000476aModsEnough
import Derived.Test.Qxb6000476aModsTrk
import Derived.Deep.RegionLaw
import Derived.Outline
import Derived.WalkSpells
namespace Go.Proofs.Qxb6000476aMods
open Go.ChangeShapes Go.WideShapes Go.ChangeAt Go.RowKit
set_option linter.unusedVariables false

theorem Trym.info60 : (Trym.prog.info? 60).map (fun i => (i.zero, i.size, i.bytes)) = some (some (.pointer none), 1, 8) := by kernel_rfl

theorem own_some {w : World} {B : Nat} {e : TypeId} {v : Value} {k : Nat} {xs : List Value} (h : w.ownsRow B e 1 v (k + 1) xs) : ∃ g cap, v = .slice (some ⟨g, 0, none⟩) (k + 1) cap := by
  rcases h.2 with ⟨_, h⟩ | ⟨g, cap, _, h, _⟩
  · omega
  · exact ⟨g, cap, h⟩

theorem cell_blk {w : World} {b i : Nat} {cs : Array Value} {t : TypeId} {v : Value} (h : w.heap[b]? = some (.cells cs t (0, 0))) (hv : cs[i]? = some v) : w.cell? ⟨b, i, none⟩ = some v := by
  simp [World.cell?, h, hv]
theorem free_blk {w : World} {b i : Nat} {cs : Array Value} {t : TypeId} (h : w.heap[b]? = some (.cells cs t (0, 0))) : w.frozen? ⟨b, i, none⟩ = false := by
  simp [World.frozen?, h]

theorem one_at (wr : World) (o1 : Obj) (x : Value) (e : TypeId) : ∀ (j : Nat) u, [x][j]? = some u → ((wr.alloc o1).alloc (.cells #[x] e)).drew.cell? ((⟨wr.heap.size + 1, 0, none⟩ : Addr).add j) = some u := by
  intro j u hj
  match j, hj with
  | 0, hj =>
    simp at hj; subst hj
    show ((wr.alloc o1).alloc (.cells #[x] e)).cell? _ = _
    simp [Addr.add]
theorem one_one (a : Option Addr) : ∀ u ∈ [Value.pointer a], u.oneCell' = true := by
  intro u hu; simp at hu; subst hu; rfl
theorem sz2 (wr : World) (o1 o2 : Obj) (B : Nat) (h : B ≤ wr.heap.size) : B ≤ ((wr.alloc o1).alloc o2).drew.heap.size := by
  show B ≤ ((wr.heap.push o1).push o2).size
  simp; omega
theorem setCell_facts {w0 wr w1 : World} {B T M : Nat} {needed : Int} {f : Nat → Int} {k : Nat} {p : Nat → Nat} {v : Value} {o1 o2 : Obj}
    (h : EnInv w0 B T M needed f k p v wr) (hg0 : World.grownBy ((wr.alloc o1).alloc o2).drew w1 v.ownBlock) :
    w1.cell? ⟨T, 3, none⟩ = some v ∧ w1.frozen? ⟨T, 3, none⟩ = false ∧ T < w1.heap.size := by
  have hg : World.grownBy ((wr.alloc o1).alloc o2) w1 v.ownBlock := ⟨hg0.os, hg0.tape, hg0.output, hg0.size, hg0.block⟩
  have hlt : T < wr.heap.size := (Array.getElem?_eq_some_iff.1 h.tr).1
  have hb : w1.heap[T]? = wr.heap[T]? := by
    rw [hg.block T (by simp; omega) (by
      intro e
      rcases h.own.2 with ⟨rfl, _⟩ | ⟨g, cap, cur, rfl, hb, hgg, _⟩
      · simp [Value.ownBlock] at e
      · simp [Value.ownBlock] at e
        subst e
        rw [h.tr] at hgg
        simp at hgg)]
    rw [Below.heap_alloc _ _ _ (by simp; omega), Below.heap_alloc _ _ _ hlt]
  rw [h.tr] at hb
  exact ⟨cell_blk hb rfl, free_blk hb, (Array.getElem?_eq_some_iff.1 hb).1⟩

def nth (zs : List Int) (i : Nat) : Int := zs[i]?.getD 0

set_option maxHeartbeats 1000000 in
theorem zzenough (b n : Nat) (needed : Int) (zs : List Int) (w : World) (hn : n ≤ 131072) (h0 : 0 ≤ needed) (h1 : needed ≤ 4294967295) (hb : b < w.heap.size) (hc : ∀ i, i < n → w.cell? ⟨b, i, none⟩ = some (.int .i64 (nth zs i)))
    (hz : ∀ k, k < n → 0 ≤ zs[k]?.getD 0 ∧ psum zs (k + 1) ≤ 4611686018427387904) :
    Calls Trym.prog 16 #[.int .u32 needed, .slice (some ⟨b, 0, none⟩) n n] w fun e w' => EnoughPost zs n needed e ∧ Below w.heap.size w w' := by
  obtain ⟨f, hf⟩ : ∃ f, f = nth zs := ⟨_, rfl⟩
  rw [← hf] at hc
  have hf' : Hid (f = nth zs) := hf
  have hz' : Hid (∀ k, k < n → 0 ≤ zs[k]?.getD 0 ∧ psum zs (k + 1) ≤ 4611686018427387904) := hz
  clear hf hz
  obtain ⟨i0, hi, hz0, hz1, hz2⟩ := info_parts Trym.info60
  have hmm := @run_makeMap Trym.prog
  have hc' : Hid (∀ i, i < n → w.cell? ⟨b, i, none⟩ = some (.int .i64 (f i))) := hc
  clear hc
  go_enter Trym.func16, Trym.ntmps16
  go_wp2
  go_loopw [6] (fun i wr => ∃ (k : Nat) (p : Nat → Nat) (v : Value), k ≤ n ∧ i = .int .i64 k ∧ EnInv w w.heap.size (w.heap.size + 1) w.heap.size needed f k p v wr) (fun i _ => n - (intOf i).toNat)
  case atStart =>
    refine ⟨0, fun _ => 0, .slice none 0 0, Nat.zero_le _, rfl, ⟨?_, ?_, ?_, ?_, ?_, ?_⟩⟩
    · exact ((Below.refl _ _).alloc (Nat.le_refl _) _).alloc (by simp) _
    · simp; omega
    · omega
    · have := heap_alloc_new (w.alloc (.map #[] 0)) (.cells #[.int .u32 needed, .int .u64 0, .map (some w.heap.size), .slice none 0 0, .slice none 0 0] 59)
      simpa using this
    · exact World.ownsRow_nil _ _ _ _
    · intro i hi; omega
  case round =>
    obtain ⟨k, p, v, hk, rfl, hinv⟩ := hrel
    have HI : Hid (EnInv w w.heap.size (w.heap.size + 1) w.heap.size needed f k p v wr) := hinv
    by_cases hlt : k < n
    · have hcell : wr.cell? ⟨b, k, none⟩ = some (.int .i64 (f k)) := (hinv.below.cell (p := ⟨b, k, none⟩) hb).trans (hc'.out k hlt)
      have hT : wr.cell? ⟨w.heap.size + 1, 3, none⟩ = some v := cell_blk (i := 3) hinv.tr rfl
      have hTlt : w.heap.size + 1 < wr.heap.size := (Array.getElem?_eq_some_iff.1 hinv.tr).1
      have hblt : b < wr.heap.size := by omega
      have hTl2 : w.heap.size < wr.heap.size := by omega
      have hown := hinv.own
      have HO : Hid (wr.ownsRow w.heap.size 60 1 v k (ptrs p k)) := hown
      have hwk : IntKind.u32.wrap (k : Int) = (k : Int) := by rw [IntKind.wrap_u32]; omega
      clear hinv hown
      go_wp2
      go_region_law (refine step_append_own rfl (.tmp 22) (.tmp 31) 55 rfl w.heap.size 60 i0 (.pointer none) 1 8 Trym.underlying55 hi hz0 hz1 hz2 rfl (by decide) v k (ptrs p k) rfl ?h2 ⟨wr.heap.size + 1, 0, none⟩ 1 1 [.pointer (some ⟨wr.heap.size, 0, none⟩)] rfl rfl ?h4 ?h5 ?h6 ?h7 ?h8 ?_; (case h2 => exact ((HO.out.alloc _).alloc _).drew); (case h4 => exact one_at _ _ _ _); (case h5 => exact one_one _); (case h6 => unfold maxLen; omega); (case h7 => omega); (case h8 => exact sz2 _ _ _ _ (by omega)); intro v' w1 hown' hgrow; obtain ⟨g, cap', hv'⟩ := own_some hown'; subst hv'; have hinv2 := enInv_step HI.out rfl hown' hgrow; have hT1 := setCell_facts HI.out hgrow; obtain ⟨hT2, hT3, hT4⟩ := hT1; have HI2 : Hid _ := hinv2; clear hown' hgrow hinv2)
      all_goals
        go_wp2
        go_roundw
        case rel => exact ⟨k + 1, _, _, by omega, by go_num, HI2.out⟩
        case measure => simp [intOf]; omega
    · have hkn : k = n := by omega
      subst hkn
      have hN : wr.cell? ⟨w.heap.size + 1, 0, none⟩ = some (.int .u32 needed) := cell_blk (i := 0) hinv.tr rfl
      have hT : wr.cell? ⟨w.heap.size + 1, 3, none⟩ = some v := cell_blk (i := 3) hinv.tr rfl
      have hC : Hid (∀ i, i < k → wr.cell? ⟨p i, 1, none⟩ = some (.int .i64 (zs[i]?.getD 0))) := by
        intro i hi
        have := cell_blk (i := 1) (hinv.tal i hi) rfl
        rw [hf'.out] at this
        exact this
      have hown := hinv.own
      have HB : Hid (Below w.heap.size w wr) := hinv.below
      clear hinv
      rcases hown.2 with ⟨hv, hk0⟩ | ⟨g, cap, cur, hv, hgb, hgg, hkc, hcm, hcs, hct⟩
      · subst hv
        subst hk0
        clear hown
        go_wp2_with (go_at_call 32; refine (enough_nil _ needed zs _ hN hT).mono ?_; rintro e w' ⟨rfl, kk, rfl, hpost⟩)
        go_ret
        exact ⟨⟨kk, rfl, hpost⟩, HB.out⟩
      · have hP : Hid (∀ i, i < k → wr.cell? ⟨g, i, none⟩ = some (.pointer (some ⟨p i, 0, none⟩))) := by
          intro i hi
          have hx := ptrs_get p k i hi
          rw [← hct, List.getElem?_take] at hx
          rw [if_pos (by omega)] at hx
          exact cell_blk hgg (by simpa using hx)
        subst hv
        clear hown hgb hgg hct hcs hcm
        go_wp2_with (go_at_call 32; refine (enough_any _ g k cap needed p zs _ (by omega) h0 h1 hN hT hP.out hC.out hz'.out).mono ?_; rintro e w' ⟨rfl, kk, rfl, hpost⟩)
        go_ret
        exact ⟨⟨kk, rfl, hpost⟩, HB.out⟩

theorem zzenough_nil (needed : Int) (zs : List Int) (w : World) :
    Calls Trym.prog 16 #[.int .u32 needed, .slice none 0 0] w fun e w' => EnoughPost zs 0 needed e ∧ Below w.heap.size w w' := by
  have hmm := @run_makeMap Trym.prog
  go_enter Trym.func16, Trym.ntmps16
  go_wp2
  refine wp_loop_rounds 1 ?_; rw [rounds_succ]
  go_wp2_with (go_at_call 32; refine (enough_nil _ needed zs _ (by simp) (by simp)).mono ?_; rintro e w' ⟨rfl, kk, rfl, hpost⟩)
  go_ret
  exact ⟨⟨kk, rfl, hpost⟩, ((Below.refl _ _).alloc (Nat.le_refl _) _).alloc (by simp) _⟩
end Go.Proofs.Qxb6000476aMods
