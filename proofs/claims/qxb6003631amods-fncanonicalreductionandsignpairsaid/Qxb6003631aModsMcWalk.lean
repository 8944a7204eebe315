import Derived.Test.Qxb6003631aModsPlain
import Derived.Test.Qxb6003631aModsClone
namespace Go.Proofs.Qxb6003631aMods
open Go.RowKit
set_option linter.unusedVariables false

theorem zzcanon_any (b n cap : Nat) (y : Nat → Int) (w : World) (hn : 32 ≤ n) (hy : ∀ i, 0 ≤ y i ∧ y i ≤ 255) (hc : ∀ i, i < 32 → w.cell? ⟨b, i, none⟩ = some (.int .u8 (y i))) :
    Calls Trym.prog 8 #[.slice (some ⟨b, 0, none⟩) n cap] w fun e w' => e = .returned (.bool (canonB y)) ∧ Below w.heap.size w w' := by
  have H := (show Hid _ from canon_any b n cap y w hn hy hc)
  clear hc hy
  go_enter Trym.func8, Trym.ntmps8
  go_wp2_with fail
  refine Calls.mono H.out ?_
  rintro e w1 ⟨rfl, hb⟩
  have HB : Hid (Below w.heap.size w w1) := hb
  clear hb
  go_wp2
  go_ret
  exact ⟨rfl, HB.out⟩

theorem bytes5_yes (a : Option Addr) (len cap : Nat) (w : World) (h : len ≤ 1048576) : Calls Trym.prog 5 #[.slice a len cap] w fun e w' => e = .returned (.bool true) ∧ w' = w := by
  go_enter Trym.func5, Trym.ntmps5
  go_wp2
  go_ret
  exact ⟨rfl, rfl⟩
theorem bytes5_no (a : Option Addr) (len cap : Nat) (w : World) (h : 1048576 < len) : Calls Trym.prog 5 #[.slice a len cap] w fun e w' => e = .returned (.bool false) ∧ w' = w := by
  go_enter Trym.func5, Trym.ntmps5
  go_wp2
  go_ret
  exact ⟨rfl, rfl⟩

theorem mc_out (a : Option Addr) (len cap : Nat) (w : World) (h : 1048576 < len ∨ len < 32) :
    Calls Trym.prog 3 #[.slice a len cap] w fun e w' => e = .returned (.bool true) ∧ Below w.heap.size w w' := by
  by_cases h1 : 1048576 < len
  · go_enter Trym.func3, Trym.ntmps3
    go_wp2_with (go_at_call 5; refine (bytes5_no _ _ _ _ h1).mono ?_; rintro e w' ⟨rfl, rfl⟩)
    go_ret
    exact ⟨rfl, Below.refl _ _⟩
  · have h2 : len < 32 := by omega
    clear h
    go_enter Trym.func3, Trym.ntmps3
    go_wp2_with (go_at_call 5; refine (bytes5_yes _ _ _ _ (by omega)).mono ?_; rintro e w' ⟨rfl, rfl⟩)
    go_ret
    exact ⟨rfl, Below.refl _ _⟩

def cF (y : Nat → Int) (k : Nat) : Nat → Int := fun i => if i < k then y i else 0
theorem cF_zero (y : Nat → Int) : row32 (cF y 0) = row32 (fun _ => 0) := row32_congr (fun i _ => by simp [cF])
theorem cF_all (y : Nat → Int) : row32 (cF y 32) = row32 y := row32_congr (fun i hi => by simp [cF, hi])
theorem cF_step (y : Nat → Int) (k : Nat) : (row32 (cF y k)).setIfInBounds k (.int .u8 (y k)) = row32 (cF y (k + 1)) := by
  rw [row32_set]
  apply row32_congr
  intro i hi
  unfold cF
  by_cases e : i = k
  · subst e; simp
  · have : (i < k + 1) = (i < k) := by simp; omega
    simp [e, this]

set_option maxHeartbeats 4000000 in
set_option maxRecDepth 100000 in
theorem mc_main (a : Option Addr) (n cap : Nat) (y : Nat → Int) (w : World) (h32 : 32 ≤ n) (hn : n ≤ 1048576) (hy : ∀ i, 0 ≤ y i ∧ y i ≤ 255) (s1 : ArgSl w a n cap (fun i => .int .u8 (y i))) :
    Calls Trym.prog 3 #[.slice a n cap] w fun e w' => e = .returned (.bool true) ∧ Below w.heap.size w w' := by
  have S1 : Hid (ArgSl w a n cap (fun i => .int .u8 (y i))) := s1
  have HY : Hid (∀ i, 0 ≤ y i ∧ y i ≤ 255) := hy
  clear s1 hy
  go_enter Trym.func3, Trym.ntmps3
  go_wp2_with fail
  refine (bytes5_yes _ _ _ _ hn).mono ?_
  rintro e w' ⟨rfl, hw⟩; rw [hw]; clear hw w'
  go_wp2_with fail
  refine (clone6_sl a n cap y w hn S1.out).mono ?_
  rintro e w1 ⟨ao, b, q1, rfl, t1, b1⟩
  obtain ⟨rfl, blt, bc⟩ := t1 (by omega)
  have BC : Hid (∀ j, j < n → w1.cell? ⟨b, j, none⟩ = some (.int .u8 (y j))) := bc
  have HB1 : Hid (Below w.heap.size w w1) := b1
  clear t1 b1 S1 bc
  go_wp2
  go_loopw [4] (fun i wr => ∃ k : Nat, k ≤ 32 ∧ i = .int .i64 k ∧ wr = w1.alloc (.cells (row32 (cF y k)) 25)) (fun i _ => 32 - (intOf i).toNat)
  case atStart => exact ⟨0, Nat.zero_le _, rfl, by rw [cF_zero, ← zeros_is]⟩
  case round =>
    obtain ⟨k, hk, rfl, rfl⟩ := hrel
    by_cases hlt : k < 32
    · have hbk := BC.out k (by omega)
      have hsk := row32_get (cF y k) k hlt
      have HS : Hid ((row32 (cF y k)).setIfInBounds k (.int .u8 (y k)) = row32 (cF y (k + 1))) := cF_step y k
      obtain ⟨S, hS⟩ : ∃ S, S = row32 (cF y k) := ⟨_, rfl⟩
      rw [← hS] at hsk HS ⊢
      obtain ⟨x, hx⟩ : ∃ x, x = y k := ⟨_, rfl⟩
      rw [← hx] at hbk HS
      clear hS hx
      have l1 : (k : Int) < (n : Int) := by omega
      go_wp2
      go_roundw
      case rel => exact ⟨k + 1, by omega, by go_num, by rw [HS.out]⟩
      case measure => simp [intOf]; omega
    · obtain rfl : k = 32 := by omega
      rw [cF_all]
      obtain ⟨m0, m1⟩ := HY.out 31
      have hand := and127 (y 31) m0 m1
      have g31 := row32_get y 31 (by omega)
      have hset : (row32 y).setIfInBounds 31 (.int .u8 (y 31 % 128)) = row32 (low y) := row32_set y 31 _
      obtain ⟨lb, lb31⟩ := low_bd y HY.out
      have HLB : Hid (∀ i, 0 ≤ low y i ∧ low y i ≤ 255) := lb
      obtain ⟨A, hA⟩ : ∃ A, A = row32 y := ⟨_, rfl⟩
      obtain ⟨Z, hZ⟩ : ∃ Z, Z = row32 (low y) := ⟨_, rfl⟩
      rw [← hA] at g31 hset ⊢
      rw [← hZ] at hset
      have HZ : Hid (Z = row32 (low y)) := hZ
      have ZZ : Hid ((Trym.prog.info? 25).map (·.size) = some Z.size) := by rw [hZ]; exact row32_i _
      obtain ⟨y31, h31⟩ : ∃ x, x = y 31 := ⟨_, rfl⟩
      rw [← h31] at hand g31 hset m0 m1
      have H31 : Hid (y31 = y 31) := h31
      clear hA hZ lb lb31 h31
      go_wp2_with (refine wpList_load_row rfl 25 (.tmp 3) rfl w1.heap.size rfl 25 Z (0, 0) (.array 32 5) (heap_alloc_last w1 _) Trym.underlying25 rfl ZZ.out ?_)
      have hadd := add_any (low y) (w1.alloc (.cells Z 25)) HLB.out
      rw [← HZ.out] at hadd
      refine hadd.mono ?_
      rintro e w2 ⟨rfl, hb2⟩
      have HB2 : Hid (Below w.heap.size w w2) := HB1.out.trans (((Below.refl _ _).alloc HB1.out.size _).trans (hb2.mono (by have := HB1.out.size; simp; omega)))
      have BC2 : Hid (∀ j, j < 32 → w2.cell? ⟨b, j, none⟩ = some (.int .u8 (y j))) := fun j hj => by
        rw [hb2.cell (p := ⟨b, j, none⟩) (by simp; omega), World.cell?_alloc_past _ _ _ blt]
        exact BC.out j (by omega)
      have hblt2 : b < w2.heap.size := by have := hb2.size; simp at this; omega
      have HCAN : Hid (canonB y = (!gB (sm (low y)) && (y31 / 128 == 0 || !(oneB (sm (low y)) 31 || minB (sm (low y)) 31)))) := by
        have := canon_carry y HY.out
        rw [← H31.out] at this
        exact this
      clear hadd hb2 BC HB1 hand g31 hset HZ ZZ
      obtain ⟨s, hs⟩ : ∃ s, s = sm (low y) := ⟨_, rfl⟩
      rw [← hs] at HCAN ⊢
      have SB : Hid (∀ k, 0 ≤ s k ∧ s k ≤ 255) := by
        intro k; rw [hs]; exact sm_bd _ k
      clear hs
      have SG : Hid (∀ i, i < 32 → (row32 s)[i]? = some (.int .u8 (s i))) := row32_get s
      obtain ⟨S, hS⟩ : ∃ S, S = row32 s := ⟨_, rfl⟩
      have ZS : Hid ((Trym.prog.info? 25).map (·.size) = some S.size ∧ S.size = 32 ∧ S.all (·.oneCell') = true) := by
        rw [hS]; exact ⟨row32_i _, row32_size _, row32_one _⟩
      rw [← hS] at SG ⊢
      clear hS
      have g31 := SG.out 31 (by omega)
      have g0 := SG.out 0 (by omega)
      obtain ⟨sb0, sb1⟩ := SB.out 31
      have hand := and128 (s 31) sb0 sb1
      have E1 : Hid (gB s = (s 31 / 128 * 128 != 0)) := rfl
      have E2 : Hid (oneB s 0 = (s 0 == 20)) := by show _ = _; simp [oneB]
      have E3 : Hid (minB s 0 = (s 31 == 127)) := by show _ = _; simp [minB]
      obtain ⟨s31, h31⟩ : ∃ x, x = s 31 := ⟨_, rfl⟩
      obtain ⟨s0, h0⟩ : ∃ x, x = s 0 := ⟨_, rfl⟩
      rw [← h31] at g31 hand E1 E3 sb0 sb1
      rw [← h0] at g0 E2
      clear h31 h0
      go_wp2_with (refine wpList_store_row rfl 25 (.tmp 6) (.tmp 42) rfl w2.heap.size S rfl rfl 25 _ (heap_alloc_last w2 _) ZS.out.1 (by rw [ZS.out.2.1]; rfl) ZS.out.2.2 ?_; rw [World.setRow_alloc_new])
      rw [← E1.out, ← E2.out]
      go_loop [8, 9] (fun o i => ∃ k : Nat, k ≤ 31 ∧ i = .int .i64 ((1 + k : Nat) : Int) ∧ o = .bool (oneB s k)) (fun _ i => 32 - (intOf i).toNat)
      case atStart => exact ⟨0, Nat.zero_le _, rfl, rfl⟩
      case round =>
        obtain ⟨k, hk, rfl, rfl⟩ := hrel
        by_cases hlt : k < 31
        · have hcell := SG.out (1 + k) (by omega)
          have HS : Hid (oneB s (k + 1) = (oneB s k && (s (1 + k) == 0))) := oneB_succ s k
          obtain ⟨c, hc⟩ : ∃ c, c = s (1 + k) := ⟨_, rfl⟩
          rw [← hc] at hcell HS
          obtain ⟨hv, hhv⟩ : ∃ hv, hv = oneB s k := ⟨_, rfl⟩
          rw [← hhv] at HS ⊢
          obtain ⟨j, hj⟩ : ∃ j, j = 1 + k := ⟨_, rfl⟩
          rw [← hj] at hcell ⊢
          have HJ : Hid (j = 1 + k) := hj
          have hj32 : j < 32 := by omega
          clear hc hhv hj
          cases hv with
          | true =>
            go_wp2
            go_round
            case rel => exact ⟨k + 1, by omega, by have := HJ.out; go_num, by rw [HS.out]; simp⟩
            case measure => have := HJ.out; simp [intOf]; omega
          | false =>
            go_wp2
            go_round
            case rel => exact ⟨k + 1, by omega, by have := HJ.out; go_num, by rw [HS.out]; simp⟩
            case measure => have := HJ.out; simp [intOf]; omega
        · obtain rfl : k = 31 := by omega
          go_wp2
          rw [← E3.out]
          go_loop [10, 11] (fun o i => ∃ k : Nat, k ≤ 31 ∧ i = .int .i64 k ∧ o = .bool (minB s k)) (fun _ i => 31 - (intOf i).toNat)
          case atStart => exact ⟨0, Nat.zero_le _, rfl, rfl⟩
          case round =>
            obtain ⟨k, hk, rfl, rfl⟩ := hrel
            by_cases hlt : k < 31
            · have hcell := SG.out k (by omega)
              have HS : Hid (minB s (k + 1) = (minB s k && (s k == 255))) := minB_succ s k
              obtain ⟨c, hc⟩ : ∃ c, c = s k := ⟨_, rfl⟩
              rw [← hc] at hcell HS
              obtain ⟨hv, hhv⟩ : ∃ hv, hv = minB s k := ⟨_, rfl⟩
              rw [← hhv] at HS ⊢
              clear hc hhv
              cases hv with
              | true =>
                go_wp2
                go_round
                case rel => exact ⟨k + 1, by omega, by go_num, by rw [HS.out]; simp⟩
                case measure => simp [intOf]; omega
              | false =>
                go_wp2
                go_round
                case rel => exact ⟨k + 1, by omega, by go_num, by rw [HS.out]; simp⟩
                case measure => simp [intOf]; omega
            · obtain rfl : k = 31 := by omega
              clear g31 g0 hand E1 E2 E3 SG
              obtain ⟨G, hG⟩ : ∃ G, G = gB s := ⟨_, rfl⟩
              obtain ⟨I1, hI1⟩ : ∃ I1, I1 = oneB s 31 := ⟨_, rfl⟩
              obtain ⟨I2, hI2⟩ : ∃ I2, I2 = minB s 31 := ⟨_, rfl⟩
              rw [← hG, ← hI1, ← hI2] at HCAN ⊢
              clear hG hI1 hI2
              have HCC := (show Hid _ from zzcanon_any b n q1 y (w2.alloc (.cells S 25)) h32 HY.out (fun i hi => by rw [World.cell?_alloc_past _ _ _ hblt2]; exact BC2.out i hi))
              have BW : Hid (∀ w', Below (w2.alloc (.cells S 25)).heap.size (w2.alloc (.cells S 25)) w' → Below w.heap.size w w') := fun w' hb => by
                have h1 := HB2.out
                exact (h1.alloc h1.size _).trans (hb.mono (by have := h1.size; simp; omega))
              cases hs0 : (y31 / 128 == 0)
              all_goals
                rw [hs0] at HCAN
                cases G <;> cases I1 <;> cases I2
                all_goals
                  go_wp2_with fail
                  refine Calls.mono HCC.out ?_
                  rintro e w5 ⟨rfl, hb5⟩
                  rw [HCAN.out]
                  have HB5 := (show Hid _ from BW.out w5 hb5)
                  clear hb5
                  go_wp2
                  go_ret
                  exact ⟨rfl, HB5.out⟩

end Go.Proofs.Qxb6003631aMods
