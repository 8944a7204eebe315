import Derived.Test.Qxb6000476aModsRows
import Derived.WalkKit
import Derived.ProofKit
import Derived.OpenShut
import Derived.ShutString
import Derived.ChangeOld
import Derived.Below
import Derived.Test.Qxb6000476aModsLeaf
import Derived.Test.Qxb6000476aModsZEn
namespace Go.Proofs.Qxb6000476aMods.fnEnoughIsFirstTrancheReachingNeeded
open Go.ChangeShapes Go.WideShapes Go.ChangeAt Go.RowKit
open Go.ChangeMaps (open_string shut_string)
set_option linter.unusedVariables false

/-- WHAT THE WALK IS TOLD OF A SLICE OF INTEGERS THAT CAME IN: it is nil; or it leads to a row of 'cap' cells, the numbers 'zs' (the first 'len' are its elements, the rest its spare room), each fitting its kind. -/
def IsRow (k : IntKind) (w : World) (a : Option Addr) (len cap : Nat) (zs : List Int) : Prop :=
  (a = none ∧ len = 0 ∧ cap = 0 ∧ zs = []) ∨
  ∃ x, a = some x ∧ len ≤ cap ∧ cap ≤ maxLen ∧ zs.length = cap ∧ (∀ i, i < zs.length → w.cell? (x.add i) = some (.int k (zs.getD i 0))) ∧ ∀ n ∈ zs, (Lit.int k n).wf = true

theorem walk_long (a0 : Int) (a1 : Option Addr) (len1 cap1 : Nat) (w : World) (h : 131072 < len1) :
    Calls Trym.prog 5 #[.int .u32 a0, .slice a1 len1 cap1] w fun e w' => e = .returned (.bool true) ∧ Below w.heap.size w w' := by
  by_cases h2 : len1 ≤ 1048576
  · go_enter Trym.func5, Trym.ntmps5
    go_wp2_with (go_at_call 12; refine (bytes5_yes _ _ _ _ _ h2).mono ?_; rintro e w' ⟨rfl, rfl⟩)
    go_ret
    exact ⟨rfl, Below.refl _ _⟩
  · go_enter Trym.func5, Trym.ntmps5
    go_wp2_with (go_at_call 12; refine (bytes5_no _ _ _ _ _ (by omega)).mono ?_; rintro e w' ⟨rfl, rfl⟩)
    go_ret
    exact ⟨rfl, Below.refl _ _⟩

theorem walk_nil (a0 : Int) (w : World) :
    Calls Trym.prog 5 #[.int .u32 a0, .slice none 0 0] w fun e w' => e = .returned (.bool true) ∧ Below w.heap.size w w' := by
  go_enter Trym.func5, Trym.ntmps5
  go_wp2_with (first
    | (go_at_call 12; refine (bytes5_yes _ _ _ _ _ (by omega)).mono ?_; rintro e w' ⟨rfl, rfl⟩)
    | (go_at_call 14; refine (limit_any _).mono ?_; rintro e w' ⟨rfl, rfl⟩)
    | (go_at_call 13; refine (within_zero _ _ _ _).mono ?_; rintro e w' ⟨rfl, rfl⟩)
    | (go_at_call 15; refine (clone15_nil _).mono ?_; rintro e w' ⟨rfl, rfl⟩)
    | (go_at_call 16; refine (zzenough_nil a0 [] _).mono ?_; rintro e w' ⟨⟨kk, rfl, hk, hpost⟩, hb⟩; obtain rfl : kk = 0 := Nat.le_zero.1 hk))
  go_ret
  exact ⟨rfl, hb⟩

theorem walk_zero (a0 : Int) (x : Addr) (cap : Nat) (w : World) (w0 : 0 ≤ a0 ∧ a0 ≤ 4294967295) :
    Calls Trym.prog 5 #[.int .u32 a0, .slice (some x) 0 cap] w fun e w' => e = .returned (.bool true) ∧ Below w.heap.size w w' := by
  go_enter Trym.func5, Trym.ntmps5
  go_wp2_with (first
    | (go_at_call 12; refine (bytes5_yes _ _ _ _ _ (by omega)).mono ?_; rintro e w' ⟨rfl, rfl⟩)
    | (go_at_call 14; refine (limit_any _).mono ?_; rintro e w' ⟨rfl, rfl⟩)
    | (go_at_call 13; refine (within_zero _ _ _ _).mono ?_; rintro e w' ⟨rfl, rfl⟩)
    | (go_at_call 15; refine (clone15_zero x cap _).mono ?_; rintro e w' ⟨rfl, rfl⟩)
    | (go_at_call 16; refine (zzenough _ 0 a0 [] _ (by omega) w0.1 w0.2 (by simp) (by intro i hi; omega) (by intro i hi; omega)).mono ?_; rintro e w' ⟨⟨kk, rfl, hk, hpost⟩, hb⟩; obtain rfl : kk = 0 := Nat.le_zero.1 hk))
  go_ret
  exact ⟨rfl, ((Below.refl _ _).alloc (Nat.le_refl _) _).trans (hb.mono (by simp))⟩

set_option maxHeartbeats 1000000 in
theorem walk_main (a0 : Int) (b off n cap : Nat) (zs : List Int) (w : World) (h0 : 0 ≤ a0) (h1 : a0 ≤ 4294967295) (hn0 : 0 < n) (hn : n ≤ 131072) (hb : b < w.heap.size)
    (hwf : ∀ k : Nat, -9223372036854775808 ≤ zs[k]?.getD 0 ∧ zs[k]?.getD 0 ≤ 9223372036854775807)
    (hc : ∀ i, i < n → w.cell? ⟨b, off + i, none⟩ = some (.int .i64 (zs[i]?.getD 0))) :
    Calls Trym.prog 5 #[.int .u32 a0, .slice (some ⟨b, off, none⟩) n cap] w fun e w' => e = .returned (.bool true) ∧ Below w.heap.size w w' := by
  have hwf' : Hid (∀ k : Nat, -9223372036854775808 ≤ zs[k]?.getD 0 ∧ zs[k]?.getD 0 ≤ 9223372036854775807) := hwf
  have hc' : Hid (∀ i, i < n → w.cell? ⟨b, off + i, none⟩ = some (.int .i64 (zs[i]?.getD 0))) := hc
  clear hwf hc
  go_enter Trym.func5, Trym.ntmps5
  go_wp2_with fail
  refine (bytes5_yes _ _ _ _ _ (by omega)).mono ?_
  rintro e w' ⟨rfl, hw⟩; rw [hw]; clear hw w'
  go_wp2_with fail
  refine (limit_any _).mono ?_
  rintro e w' ⟨rfl, hw⟩; rw [hw]; clear hw w'
  go_wp2_with fail
  refine (within_any b off n cap zs 4611686018427387904 _ (by omega) (by omega) (by omega) hwf'.out hc'.out).mono ?_
  rintro e w' ⟨hw, s, ok, rfl, hok⟩; rw [hw]; clear hw w'
  cases ok with
  | false =>
    go_wp2
    go_ret
    exact ⟨rfl, Below.refl _ _⟩
  | true =>
    have hz : Hid (∀ k, k < n → 0 ≤ zs[k]?.getD 0 ∧ psum zs (k + 1) ≤ 4611686018427387904) := hok rfl
    clear hok
    go_wp2_with fail
    refine (clone15_any b off n cap (nth zs) _ (by omega) hb hc'.out).mono ?_
    rintro e w' ⟨rfl, hw⟩; rw [hw]; clear hw w'
    go_wp2_with fail
    refine (zzenough w.heap.size n a0 zs _ hn h0 h1 (by simp) (by intro i hi; rw [World.cell?_alloc_new]; exact rowOf_get _ _ _ hi) hz.out).mono ?_
    rintro e w2 ⟨⟨k, rfl, hk1, hk2, hk3, hk4⟩, hbel⟩
    have hk0 : 0 < k := hk2 hn0
    have HB : Hid (Below (w.alloc (.cells (rowOf n (fun i => .int .i64 (nth zs i))) 3)).heap.size (w.alloc (.cells (rowOf n (fun i => .int .i64 (nth zs i))) 3)) w2) := hbel
    have hcl : Hid (∀ i, i < n → w2.cell? ⟨w.heap.size, i, none⟩ = some (.int .i64 (zs[i]?.getD 0))) := by
      intro i hi
      rw [hbel.cell (p := ⟨w.heap.size, i, none⟩) (by simp), World.cell?_alloc_new]
      exact rowOf_get _ _ _ hi
    have H3 : Hid (∀ j, j + 1 < k → psum zs (j + 1) < a0) := hk3
    have H4 : Hid (k < n → a0 ≤ psum zs k) := hk4
    have hpos : Hid (∀ k, k ≤ n → 0 ≤ psum zs k) := psum_nonneg zs n (fun k hk => (hz.out k hk).1)
    clear hbel hk2 hk3 hk4
    go_wp2
    go_loop [9, 10] (fun s j => ∃ m : Nat, m ≤ k ∧ j = .int .i64 (m + 1 : Nat) ∧ s = .int .i64 (psum zs m)) (fun _ j => k + 1 - (intOf j).toNat)
    case atStart => exact ⟨0, Nat.zero_le _, rfl, rfl⟩
    case round =>
      obtain ⟨m, hm, rfl, rfl⟩ := hrel
      have hs0 := hpos.out m (by omega)
      by_cases hlt : m < k
      · have c1 := hcl.out m (by omega)
        obtain ⟨hz0, hz1⟩ := hz.out m (by omega)
        have hs1 := hpos.out (m + 1) (by omega)
        have hS' : Hid (psum zs (m + 1) = psum zs m + zs[m]?.getD 0) := rfl
        obtain ⟨z, hzk⟩ : ∃ z, z = zs[m]?.getD 0 := ⟨_, rfl⟩
        rw [← hzk] at c1 hz0 hS'
        clear hzk
        rw [hS'.out] at hz1 hs1
        by_cases hmk : m + 1 < k
        · have hlow := H3.out m hmk
          rw [hS'.out] at hlow
          go_wp2
          refine ⟨⟨_, _, _, ⟨m + 1, by omega, by go_num, by rw [hS'.out]⟩, rfl, rfl, rfl⟩, ?_⟩
          simp [intOf]; omega
        · obtain rfl : k = m + 1 := by omega
          by_cases hkn : m + 1 < n
          · have hhi := H4.out hkn
            rw [hS'.out] at hhi
            go_wp2
            go_round
            case rel => exact ⟨m + 1, by omega, by go_num, by rw [hS'.out]⟩
            case measure => simp [intOf]; omega
          · obtain rfl : n = m + 1 := by omega
            by_cases hre : a0 ≤ psum zs m + z
            all_goals
              go_wp2
              go_round
              case rel => exact ⟨m + 1, by omega, by go_num, by rw [hS'.out]⟩
              case measure => simp [intOf]; omega
      · obtain rfl : m = k := by omega
        go_wp2
        go_ret
        exact ⟨rfl, ((Below.refl _ _).alloc (Nat.le_refl _) _).trans (HB.out.mono (by simp))⟩

theorem walk (a0 : Int) (a1 : Option Addr) (len1 cap1 : Nat) (z1 : List Int) (w : World) (w0 : (Lit.int .u32 a0).wf = true) (w1 : IsRow .i64 w a1 len1 cap1 z1) :
    Calls Trym.prog 5 #[.int .u32 a0, .slice a1 len1 cap1] w fun e w' => e = .returned (.bool true) ∧ Below w.heap.size w w' := by
  have hb0 := bounds_u32 w0
  by_cases hlong : 131072 < len1
  · exact walk_long a0 a1 len1 cap1 w hlong
  rcases w1 with ⟨rfl, rfl, rfl, rfl⟩ | ⟨x, rfl, hlc, hcm, hzl, hcell, hwf⟩
  · exact walk_nil a0 w
  by_cases hl0 : len1 = 0
  · subst hl0
    exact walk_zero a0 x cap1 w hb0
  obtain ⟨b, off, spot⟩ := x
  have hspot : spot = none := by simpa [Addr.add] using World.cell?_spot (hcell 0 (by omega))
  subst hspot
  have hcell' : ∀ j, j < z1.length → w.cell? ⟨b, off + j, none⟩ = some (.int .i64 (z1[j]?.getD 0)) := fun j hj => by
    have := hcell j hj
    rw [add_plain] at this
    simpa [List.getD] using this
  refine walk_main a0 b off len1 cap1 z1 w hb0.1 hb0.2 (by omega) (by omega) (World.block_lt_of_cell? w _ (hcell' 0 (by omega))) (range_i64 hwf) (fun i hi => hcell' i (by omega))

end Go.Proofs.Qxb6000476aMods.fnEnoughIsFirstTrancheReachingNeeded
