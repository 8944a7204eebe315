import Derived.Test.Qxb6003631aModsRow32
import Derived.Outline
namespace Go.Proofs.Qxb6003631aMods
open Go.RowKit
set_option linter.unusedVariables false

/-- The carries and the sum's bytes of y + 19. -/
def cy (z : Nat → Int) : Nat → Int
  | 0 => 19
  | k + 1 => (z k + cy z k) / 256
def sm (z : Nat → Int) (k : Nat) : Int := (z k + cy z k) % 256
def sF (z : Nat → Int) (k : Nat) : Nat → Int := fun i => if i < k then sm z i else 0

theorem cy_bd (z : Nat → Int) (hz : ∀ i, 0 ≤ z i ∧ z i ≤ 255) : ∀ k, 0 ≤ cy z k ∧ cy z k ≤ 19
  | 0 => by simp [cy]
  | k + 1 => by
    have := cy_bd z hz k
    have h := hz k
    simp only [cy]
    omega

theorem zeros_is : (#[.int .u8 0, .int .u8 0, .int .u8 0, .int .u8 0, .int .u8 0, .int .u8 0, .int .u8 0, .int .u8 0, .int .u8 0, .int .u8 0, .int .u8 0, .int .u8 0, .int .u8 0, .int .u8 0, .int .u8 0, .int .u8 0,
    .int .u8 0, .int .u8 0, .int .u8 0, .int .u8 0, .int .u8 0, .int .u8 0, .int .u8 0, .int .u8 0, .int .u8 0, .int .u8 0, .int .u8 0, .int .u8 0, .int .u8 0, .int .u8 0, .int .u8 0, .int .u8 0] : Array Value) = row32 (fun _ => 0) := by
  rfl

theorem sF_zero (z : Nat → Int) : row32 (sF z 0) = row32 (fun _ => 0) := row32_congr (fun i _ => by simp [sF])
theorem sF_all (z : Nat → Int) : row32 (sF z 32) = row32 (sm z) := row32_congr (fun i hi => by simp [sF, hi])
theorem sF_step (z : Nat → Int) (k : Nat) : (row32 (sF z k)).setIfInBounds k (.int .u8 (sm z k)) = row32 (sF z (k + 1)) := by
  rw [row32_set]
  apply row32_congr
  intro i hi
  unfold sF
  by_cases e : i = k
  · subst e; simp
  · have : (i < k + 1) = (i < k) := by simp; omega
    simp [e, this]

theorem at1 (w : World) (o o' : Obj) (c : Array Value) (t : TypeId) : (((w.alloc o).alloc (.cells c t)).alloc o').heap[w.heap.size + 1]? = some (.cells c t (0, 0)) := by
  rw [Below.heap_alloc _ _ _ (by simp)]
  have := heap_alloc_last (w.alloc o) (.cells c t)
  simpa using this
theorem at2 (w : World) (o o' : Obj) (c : Array Value) (t : TypeId) : (((w.alloc o).alloc o').alloc (.cells c t)).heap[w.heap.size + 1 + 1]? = some (.cells c t (0, 0)) := by
  have := heap_alloc_last ((w.alloc o).alloc o') (.cells c t)
  simpa using this
theorem setRow_at (w : World) (g : Nat) (c c' : Array Value) (t : TypeId) (h : w.heap[g]? = some (.cells c t (0, 0))) : (w.setRow g c').heap[g]? = some (.cells c' t (0, 0)) := by
  simp [World.setRow, Array.getElem?_modify, h]
theorem below_setRow' {B g : Nat} {a w : World} {c : Array Value} (h : Below B a w) (hg : B ≤ g) : Below B a (w.setRow g c) := by
  refine h.trans ⟨rfl, rfl, rfl, by simp [World.setRow], fun k hk => ?_⟩
  simp only [World.setRow, Array.getElem?_modify]
  rw [if_neg (by omega)]

set_option maxHeartbeats 2000000 in
set_option maxRecDepth 100000 in
theorem add_any (z : Nat → Int) (w : World) (hz : ∀ i, 0 ≤ z i ∧ z i ≤ 255) :
    Calls Trym.prog 7 #[.agg (row32 z)] w fun e w' => e = .returned (.agg (row32 (sm z))) ∧ Below w.heap.size w w' := by
  have HZ : Hid (∀ i, 0 ≤ z i ∧ z i ≤ 255) := hz
  have HG : Hid (∀ i, i < 32 → (row32 z)[i]? = some (.int .u8 (z i))) := row32_get z
  obtain ⟨Z, hZ⟩ : ∃ Z, Z = row32 z := ⟨_, rfl⟩
  have Zs : Z.size = 32 := by rw [hZ]; exact row32_size z
  have Zo : Z.all (·.oneCell') = true := by rw [hZ]; exact row32_one z
  rw [← hZ] at HG ⊢
  have HZs : Hid (Z.size = 32) := Zs
  clear hZ hz Zs Zo
  go_enter Trym.func7, Trym.ntmps7
  go_wp2
  go_loopw [4, 5] (fun c i wr => ∃ k : Nat, k ≤ 32 ∧ i = .int .i64 k ∧ c = .int .u16 (cy z k) ∧ wr = ((w.alloc (.cells Z 25)).alloc (.cells (row32 (fun _ => 0)) 25)).alloc (.cells (row32 (sF z k)) 25)) (fun _ i _ => 32 - (intOf i).toNat)
  case atStart => exact ⟨0, Nat.zero_le _, rfl, rfl, by rw [sF_zero, ← zeros_is]⟩
  case round =>
    obtain ⟨k, hk, rfl, rfl, rfl⟩ := hrel
    obtain ⟨R0, hR0⟩ : ∃ R0, R0 = row32 (fun _ => 0) := ⟨_, rfl⟩
    rw [← hR0]
    have HR0 : Hid (R0 = row32 (fun _ => 0)) := hR0
    clear hR0
    by_cases hlt : k < 32
    · have hzk := HG.out k hlt
      have hsk := row32_get (sF z k) k hlt
      obtain ⟨c0, c1⟩ := cy_bd z HZ.out k
      obtain ⟨z0, z1⟩ := HZ.out k
      have HS : Hid ((row32 (sF z k)).setIfInBounds k (.int .u8 (sm z k)) = row32 (sF z (k + 1))) := sF_step z k
      have HC : Hid (cy z (k + 1) = (z k + cy z k) / 256) := rfl
      have e1 : sm z k = (z k + cy z k) % 256 := rfl
      rw [e1] at HS
      obtain ⟨c, hc⟩ : ∃ c, c = cy z k := ⟨_, rfl⟩
      obtain ⟨x, hx⟩ : ∃ x, x = z k := ⟨_, rfl⟩
      rw [← hc] at c0 c1 HS HC ⊢
      rw [← hx] at z0 z1 HS HC hzk
      obtain ⟨S, hS⟩ : ∃ S, S = row32 (sF z k) := ⟨_, rfl⟩
      rw [← hS] at hsk HS ⊢
      have hw8 : IntKind.u8.wrap (x + c) = (x + c) % 256 := by simp [IntKind.wrap, IntKind.bits, IntKind.signed]
      clear hc hx hS e1
      go_wp2
      go_roundw
      case rel => exact ⟨k + 1, by omega, by go_num, by rw [HC.out], by rw [HS.out, HR0.out]⟩
      case measure => simp [intOf]; omega
    · obtain rfl : k = 32 := by omega
      rw [sF_all]
      obtain ⟨S, hS⟩ : ∃ S, S = row32 (sm z) := ⟨_, rfl⟩
      rw [← hS]
      have HS : Hid (S = row32 (sm z)) := hS
      have ZS : Hid ((Trym.prog.info? 25).map (·.size) = some S.size ∧ S.size = 32 ∧ S.all (·.oneCell') = true) := by
        rw [hS]; exact ⟨row32_i _, row32_size _, row32_one _⟩
      have ZR : Hid (R0.size = 32) := by
        show _ = _
        rw [HR0.out]; exact row32_size _
      clear hS
      go_wp2_with (first
        | (refine wpList_load_row rfl 25 (.tmp 3) rfl (w.heap.size + 1 + 1) rfl 25 S (0, 0) (.array 32 5) (at2 w _ _ _ _) Trym.underlying25 rfl ZS.out.1 ?_)
        | (refine wpList_store_row rfl 25 (.tmp 2) (.tmp 23) rfl (w.heap.size + 1) S rfl rfl 25 R0 (at1 w _ _ _ _) ZS.out.1 (by rw [ZR.out, ZS.out.2.1]) ZS.out.2.2 ?_))
      refine bodyPost_ret (v := .agg S) ?_ rfl ⟨by rw [HS.out], ?_⟩
      · exact results_cell_row rfl _ _ (w.heap.size + 1) 25 S (0, 0) (.array 32 5) rfl (setRow_at _ _ R0 S 25 (at1 w _ _ _ _)) Trym.underlying25 rfl ZS.out.1
      · exact below_setRow' ((((Below.refl _ _).alloc (Nat.le_refl _) _).alloc (by simp) _).alloc (by simp; omega) _) (by omega)

end Go.Proofs.Qxb6003631aMods
