import Derived.Test.Qxb6003631aModsMcWalk
namespace Go.Proofs.Qxb6003631aMods
open Go.RowKit
set_option linter.unusedVariables false

theorem bytes9_yes (a : Option Addr) (len cap : Nat) (w : World) (h : len ≤ 1048576) : Calls Trym.prog 9 #[.slice a len cap] w fun e w' => e = .returned (.bool true) ∧ w' = w := by
  go_enter Trym.func9, Trym.ntmps9
  go_wp2
  go_ret
  exact ⟨rfl, rfl⟩
theorem bytes9_no (a : Option Addr) (len cap : Nat) (w : World) (h : 1048576 < len) : Calls Trym.prog 9 #[.slice a len cap] w fun e w' => e = .returned (.bool false) ∧ w' = w := by
  go_enter Trym.func9, Trym.ntmps9
  go_wp2
  go_ret
  exact ⟨rfl, rfl⟩

theorem rp_out (a : Option Addr) (len cap : Nat) (w : World) (h : 1048576 < len ∨ len < 32) :
    Calls Trym.prog 4 #[.slice a len cap] w fun e w' => e = .returned (.bool true) ∧ Below w.heap.size w w' := by
  by_cases h1 : 1048576 < len
  · go_enter Trym.func4, Trym.ntmps4
    go_wp2_with (go_at_call 9; refine (bytes9_no _ _ _ _ h1).mono ?_; rintro e w' ⟨rfl, rfl⟩)
    go_ret
    exact ⟨rfl, Below.refl _ _⟩
  · have h2 : len < 32 := by omega
    clear h
    go_enter Trym.func4, Trym.ntmps4
    go_wp2_with (go_at_call 9; refine (bytes9_yes _ _ _ _ (by omega)).mono ?_; rintro e w' ⟨rfl, rfl⟩)
    go_ret
    exact ⟨rfl, Below.refl _ _⟩

theorem kept {w w' : World} {b : Nat} {o : Obj} (h : w.heap[b]? = some o) (hb : Below w.heap.size w w') : w'.heap[b]? = some o := by
  rw [hb.block b (blk_lt h)]; exact h
theorem keptA {w : World} {b : Nat} {o o' : Obj} (h : w.heap[b]? = some o) : (w.alloc o').heap[b]? = some o := by
  rw [Below.heap_alloc _ _ _ (blk_lt h)]; exact h

def Kp (w0 w : World) (L R b : Nat) (z t r y : Nat → Int) : Prop :=
  w.heap[L]? = some (.cells (row32 z) 25 (0, 0)) ∧ w.heap[L + 1]? = some (.cells (row32 t) 25 (0, 0)) ∧ w.heap[R]? = some (.cells (row32 r) 25 (0, 0)) ∧
  (∀ j, j < 32 → w.cell? ⟨b, j, none⟩ = some (.int .u8 (y j))) ∧ b < w.heap.size ∧ Below w0.heap.size w0 w
theorem Kp.next {w0 w w' : World} {L R b : Nat} {z t r y : Nat → Int} (h : Kp w0 w L R b z t r y) (hb : Below w.heap.size w w') : Kp w0 w' L R b z t r y := by
  obtain ⟨h1, h2, h3, h4, h5, h6⟩ := h
  exact ⟨kept h1 hb, kept h2 hb, kept h3 hb, fun j hj => by rw [hb.cell (p := ⟨b, j, none⟩) h5]; exact h4 j hj, Nat.lt_of_lt_of_le h5 hb.size, h6.trans (hb.mono h6.size)⟩

set_option maxHeartbeats 4000000 in
set_option maxRecDepth 100000 in
theorem rp_main (a : Option Addr) (n cap : Nat) (y : Nat → Int) (w : World) (h32 : 32 ≤ n) (hn : n ≤ 1048576) (hy : ∀ i, 0 ≤ y i ∧ y i ≤ 255) (s1 : ArgSl w a n cap (fun i => .int .u8 (y i))) :
    Calls Trym.prog 4 #[.slice a n cap] w fun e w' => e = .returned (.bool true) ∧ Below w.heap.size w w' := by
  have S1 : Hid (ArgSl w a n cap (fun i => .int .u8 (y i))) := s1
  have HY : Hid (∀ i, 0 ≤ y i ∧ y i ≤ 255) := hy
  clear s1 hy
  go_enter Trym.func4, Trym.ntmps4
  go_wp2_with fail
  refine (bytes9_yes _ _ _ _ hn).mono ?_
  rintro e w' ⟨rfl, hw⟩; rw [hw]; clear hw w'
  go_wp2_with fail
  refine (clone6_sl a n cap y w hn S1.out).mono ?_
  rintro e w1 ⟨ao, b, q1, rfl, t1, b1⟩
  obtain ⟨rfl, blt, bc⟩ := t1 (by omega)
  have BC : Hid (∀ j, j < n → w1.cell? ⟨b, j, none⟩ = some (.int .u8 (y j))) := bc
  have HB1 : Hid (Below w.heap.size w w1) := b1
  clear t1 b1 S1 bc
  go_wp2
  go_loopw [4] (fun i wr => ∃ k : Nat, k ≤ 32 ∧ i = .int .i64 k ∧ wr = w1.alloc (.cells (row32 (cF y k)) 25)) (fun i _ => 32 - (intOf i).toNat)
  case atStart => exact ⟨0, Nat.zero_le _, rfl, by rw [cF_zero, ← zeros_is]⟩
  case round =>
    obtain ⟨k, hk, rfl, rfl⟩ := hrel
    by_cases hlt : k < 32
    · have hbk := BC.out k (by omega)
      have hsk := row32_get (cF y k) k hlt
      have HS : Hid ((row32 (cF y k)).setIfInBounds k (.int .u8 (y k)) = row32 (cF y (k + 1))) := cF_step y k
      obtain ⟨S, hS⟩ : ∃ S, S = row32 (cF y k) := ⟨_, rfl⟩
      rw [← hS] at hsk HS ⊢
      obtain ⟨x, hx⟩ : ∃ x, x = y k := ⟨_, rfl⟩
      rw [← hx] at hbk HS
      clear hS hx
      have l1 : (k : Int) < (n : Int) := by omega
      go_wp2
      go_roundw
      case rel => exact ⟨k + 1, by omega, by go_num, by rw [HS.out]⟩
      case measure => simp [intOf]; omega
    · obtain rfl : k = 32 := by omega
      rw [cF_all]
      obtain ⟨m0, m1⟩ := HY.out 31
      have hand := and127 (y 31) m0 m1
      have g31 := row32_get y 31 (by omega)
      have hset : (row32 y).setIfInBounds 31 (.int .u8 (y 31 % 128)) = row32 (low y) := row32_set y 31 _
      obtain ⟨lb, lb31⟩ := low_bd y HY.out
      have HLB : Hid ((∀ i, 0 ≤ low y i ∧ low y i ≤ 255) ∧ low y 31 ≤ 127) := ⟨lb, lb31⟩
      have hor := or128 (low y 31) (lb 31).1 lb31
      have gz31 := row32_get (low y) 31 (by omega)
      have hset2 : (row32 (low y)).setIfInBounds 31 (.int .u8 (low y 31 + 128)) = row32 (hiF (low y)) := row32_set (low y) 31 _
      have HCB : Hid (canonB y = if y 31 / 128 = 0 then canonB (low y) else canonB (hiF (low y))) := canon_by y HY.out
      obtain ⟨A, hA⟩ : ∃ A, A = row32 y := ⟨_, rfl⟩
      obtain ⟨Z, hZ⟩ : ∃ Z, Z = row32 (low y) := ⟨_, rfl⟩
      obtain ⟨T, hT⟩ : ∃ T, T = row32 (hiF (low y)) := ⟨_, rfl⟩
      rw [← hA] at g31 hset ⊢
      rw [← hZ] at hset gz31 hset2
      rw [← hT] at hset2
      have HZ : Hid (Z = row32 (low y)) := hZ
      have HT : Hid (T = row32 (hiF (low y))) := hT
      have ZZ : Hid ((Trym.prog.info? 25).map (·.size) = some Z.size ∧ Z.size = 32 ∧ Z.all (·.oneCell') = true) := by rw [hZ]; exact ⟨row32_i _, row32_size _, row32_one _⟩
      obtain ⟨y31, h31⟩ : ∃ x, x = y 31 := ⟨_, rfl⟩
      rw [← h31] at hand g31 hset m0 m1 HCB
      obtain ⟨x31, hx31⟩ : ∃ x, x = low y 31 := ⟨_, rfl⟩
      rw [← hx31] at hor gz31 hset2
      clear hA hZ hT lb lb31 h31 hx31
      go_wp2_with (first
        | (refine wpList_load_row rfl 25 (.tmp 3) rfl w1.heap.size rfl 25 Z (0, 0) (.array 32 5) (heap_alloc_last w1 _) Trym.underlying25 rfl ZZ.out.1 ?_)
        | (refine wpList_load_row rfl 25 (.tmp 3) rfl w1.heap.size rfl 25 Z (0, 0) (.array 32 5) (keptA (heap_alloc_last w1 _)) Trym.underlying25 rfl ZZ.out.1 ?_)
        | (refine wpList_store_row rfl 25 (.tmp 6) (.tmp 43) rfl (w1.heap.size + 1) Z rfl rfl 25 _ (last1 w1 _ _ _) ZZ.out.1 (by rw [ZZ.out.2.1]; rfl) ZZ.out.2.2 ?_; rw [set1]))
      have hadd := add_any (low y) ((w1.alloc (.cells Z 25)).alloc (.cells T 25)) HLB.out.1
      rw [← HZ.out] at hadd
      refine hadd.mono ?_
      rintro e w2 ⟨rfl, hb2⟩
      have HB2 : Hid (Below w.heap.size w w2) := HB1.out.trans ((((Below.refl _ _).alloc HB1.out.size _).alloc (by have := HB1.out.size; simp; omega) _).trans (hb2.mono (by have := HB1.out.size; simp; omega)))
      have BC2 : Hid (∀ j, j < 32 → w2.cell? ⟨b, j, none⟩ = some (.int .u8 (y j))) := fun j hj => by
        rw [hb2.cell (p := ⟨b, j, none⟩) (by simp; omega), World.cell?_alloc_past _ _ _ (by simp; omega), World.cell?_alloc_past _ _ _ blt]
        exact BC.out j (by omega)
      have hblt2 : b < w2.heap.size := by have := hb2.size; simp at this; omega
      have LO : Hid (w2.heap[w1.heap.size]? = some (.cells Z 25 (0, 0))) := kept (keptA (heap_alloc_last w1 _)) hb2
      have HI : Hid (w2.heap[w1.heap.size + 1]? = some (.cells T 25 (0, 0))) := kept (last1 w1 _ _ _) hb2
      have CLO : Hid (canonB (low y) = !gB (sm (low y))) := canon_lo _ HLB.out.1 HLB.out.2
      have CHI : Hid (canonB (hiF (low y)) = (!gB (sm (low y)) && (!eq32 (low y) oneF && !eq32 (low y) (mF 31)))) := canon_hi _ HLB.out.1 HLB.out.2
      have CRE : Hid (gB (sm (low y)) = true → canonB (redF (sm (low y))) = true) := canon_red _ HLB.out.1 HLB.out.2
      clear hadd hb2 BC HB1 hand g31 hset hset2 hor gz31
      obtain ⟨s, hs⟩ : ∃ s, s = sm (low y) := ⟨_, rfl⟩
      rw [← hs] at CLO CHI CRE ⊢
      obtain ⟨sb0, sb1⟩ : 0 ≤ s 31 ∧ s 31 ≤ 255 := by rw [hs]; exact sm_bd _ 31
      have SBD : Hid (∀ i, 0 ≤ redF s i ∧ redF s i ≤ 255) := by
        intro i
        have h1 := sm_bd (low y) i
        have h2 := sm_bd (low y) 31
        rw [← hs] at h1 h2
        unfold redF
        split <;> omega
      clear hs
      have g31 := row32_get s 31 (by omega)
      have hset : (row32 s).setIfInBounds 31 (.int .u8 (s 31 % 128)) = row32 (redF s) := row32_set s 31 _
      obtain ⟨S, hS⟩ : ∃ S, S = row32 s := ⟨_, rfl⟩
      obtain ⟨R, hR⟩ : ∃ R, R = row32 (redF s) := ⟨_, rfl⟩
      have ZS : Hid ((Trym.prog.info? 25).map (·.size) = some S.size ∧ S.size = 32 ∧ S.all (·.oneCell') = true) := by
        rw [hS]; exact ⟨row32_i _, row32_size _, row32_one _⟩
      rw [← hS] at g31 hset ⊢
      rw [← hR] at hset
      have HR : Hid (R = row32 (redF s)) := hR
      clear hS hR
      have hand := and128 (s 31) sb0 sb1
      have hand2 := and127 (s 31) sb0 sb1
      have E1 : Hid (gB s = (s 31 / 128 * 128 != 0)) := rfl
      obtain ⟨s31, h31⟩ : ∃ x, x = s 31 := ⟨_, rfl⟩
      rw [← h31] at g31 hand hand2 E1 sb0 sb1 hset
      clear h31
      by_cases hg : s31 / 128 = 0
      · have hg1 : s31 / 128 * 128 = 0 := by omega
        rw [hg1] at hand E1
        go_wp2_with (first
          | (refine wpList_store_row rfl 25 (.tmp 7) (.tmp 49) rfl w2.heap.size S rfl rfl 25 _ (heap_alloc_last w2 _) ZS.out.1 (by rw [ZS.out.2.1]; rfl) ZS.out.2.2 ?_; rw [World.setRow_alloc_new])
          | (refine wpList_load_row rfl 25 (.tmp 3) rfl w1.heap.size rfl 25 Z (0, 0) (.array 32 5) (keptA LO.out) Trym.underlying25 rfl ZZ.out.1 ?_)
          | (refine wpList_store_row rfl 25 (.tmp 8) (.tmp 50) rfl (w2.heap.size + 1) Z rfl rfl 25 _ (last1 w2 _ _ _) ZZ.out.1 (by rw [ZZ.out.2.1]; rfl) ZZ.out.2.2 ?_; rw [set1]))
        have K3 : Hid (Kp w ((w2.alloc (.cells S 25)).alloc (.cells Z 25)) w1.heap.size (w2.heap.size + 1) b (low y) (hiF (low y)) (low y) y) := by
          refine ⟨?_, ?_, ?_, fun j hj => ?_, ?_, ?_⟩
          · rw [← HZ.out]; exact keptA (keptA LO.out)
          · rw [← HT.out]; exact keptA (keptA HI.out)
          · rw [← HZ.out]; exact last1 w2 _ _ _
          · rw [World.cell?_alloc_past _ _ _ (by simp; omega), World.cell?_alloc_past _ _ _ hblt2]; exact BC2.out j hj
          · simp; omega
          · have h1 := HB2.out
            exact (h1.alloc h1.size _).alloc (by have := h1.size; simp; omega) _
        clear LO HI BC2 HB2 hblt2 ZS ZZ hand hand2 hset g31
        have VB : Hid ((∀ i, 0 ≤ hiF (low y) i ∧ hiF (low y) i ≤ 255) ∧ ∀ i, 0 ≤ (low y) i ∧ (low y) i ≤ 255) := by
          have h1 := HLB.out
          refine ⟨fun i => ?_, h1.1⟩
          have h2 := h1.1 i
          have h3 := h1.1 31
          have h4 := h1.2
          unfold hiF
          split <;> omega
        refine (zzcanon_any w1.heap.size 32 32 (low y) _ (by omega) HLB.out.1 (fun i hi => blk_cell K3.out.1 (row32_get _ i hi))).mono ?_
        rintro e w4 ⟨rfl, hb4⟩
        have K4 : Hid (Kp w w4 w1.heap.size (w2.heap.size + 1) b (low y) (hiF (low y)) (low y) y) := K3.out.next hb4
        clear hb4 K3
        go_wp2_with fail
        refine (zzcanon_any (w1.heap.size + 1) 32 32 (hiF (low y)) _ (by omega) VB.out.1 (fun i hi => blk_cell K4.out.2.1 (row32_get _ i hi))).mono ?_
        rintro e w5 ⟨rfl, hb5⟩
        have K5 : Hid (Kp w w5 w1.heap.size (w2.heap.size + 1) b (low y) (hiF (low y)) (low y) y) := K4.out.next hb5
        clear hb5 K4
        go_wp2_with fail
        refine (zzcanon_any (w2.heap.size + 1) 32 32 (low y) _ (by omega) VB.out.2 (fun i hi => blk_cell K5.out.2.2.1 (row32_get _ i hi))).mono ?_
        rintro e w6 ⟨rfl, hb6⟩
        have K6 : Hid (Kp w w6 w1.heap.size (w2.heap.size + 1) b (low y) (hiF (low y)) (low y) y) := K5.out.next hb6
        clear hb6 K5
        go_wp2_with fail
        refine (zzcanon_any b n q1 y _ h32 HY.out K6.out.2.2.2.1).mono ?_
        rintro e w7 ⟨rfl, hb7⟩
        have K7 : Hid (Below w.heap.size w w7) := (K6.out.next hb7).2.2.2.2.2
        clear hb7 K6
        obtain ⟨X, hX⟩ : ∃ X, X = canonB (hiF (low y)) := ⟨_, rfl⟩
        have c0 : gB s = false := by rw [E1.out]; rfl
        have c1 : canonB (low y) = true := by rw [CLO.out, c0]; rfl
        have c3 : canonB y = if y31 / 128 = 0 then true else X := by rw [HCB.out, c1, hX]
        rw [c1, ← hX, c3]
        clear c0 c1 c3 hX CHI CLO CRE HCB E1
        by_cases hs0 : y31 / 128 = 0
        · rw [if_pos hs0, hs0]
          cases X
          all_goals
            go_wp2
            go_ret
            exact ⟨rfl, K7.out⟩
        · obtain hs1 : y31 / 128 = 1 := by omega
          rw [if_neg hs0, hs1]
          clear hs0
          cases X
          all_goals
            go_wp2
            go_ret
            exact ⟨rfl, K7.out⟩
      · have hg0 : s31 / 128 = 1 := by omega
        have hg1 : s31 / 128 * 128 = 128 := by omega
        rw [hg1] at hand E1
        go_wp2_with (first
          | (refine wpList_store_row rfl 25 (.tmp 7) (.tmp 49) rfl w2.heap.size S rfl rfl 25 _ (heap_alloc_last w2 _) ZS.out.1 (by rw [ZS.out.2.1]; rfl) ZS.out.2.2 ?_; rw [World.setRow_alloc_new])
          | (refine wpList_load_row rfl 25 (.tmp 3) rfl w1.heap.size rfl 25 Z (0, 0) (.array 32 5) (keptA LO.out) Trym.underlying25 rfl ZZ.out.1 ?_)
          | (refine wpList_store_row rfl 25 (.tmp 8) (.tmp 50) rfl (w2.heap.size + 1) Z rfl rfl 25 _ (last1 w2 _ _ _) ZZ.out.1 (by rw [ZZ.out.2.1]; rfl) ZZ.out.2.2 ?_; rw [set1])
          | (refine wpList_load_row rfl 25 (.tmp 7) rfl w2.heap.size rfl 25 S (0, 0) (.array 32 5) (keptA (heap_alloc_last w2 _)) Trym.underlying25 rfl ZS.out.1 ?_)
          | (refine wpList_store_row rfl 25 (.tmp 8) (.tmp 55) rfl (w2.heap.size + 1) S rfl rfl 25 _ (last1 w2 _ _ _) ZS.out.1 (by rw [ZS.out.2.1, ZZ.out.2.1]) ZS.out.2.2 ?_; rw [set1]))
        have K3 : Hid (Kp w ((w2.alloc (.cells S 25)).alloc (.cells R 25)) w1.heap.size (w2.heap.size + 1) b (low y) (hiF (low y)) (redF s) y) := by
          refine ⟨?_, ?_, ?_, fun j hj => ?_, ?_, ?_⟩
          · rw [← HZ.out]; exact keptA (keptA LO.out)
          · rw [← HT.out]; exact keptA (keptA HI.out)
          · rw [← HR.out]; exact last1 w2 _ _ _
          · rw [World.cell?_alloc_past _ _ _ (by simp; omega), World.cell?_alloc_past _ _ _ hblt2]; exact BC2.out j hj
          · simp; omega
          · have h1 := HB2.out
            exact (h1.alloc h1.size _).alloc (by have := h1.size; simp; omega) _
        clear LO HI BC2 HB2 hblt2 ZS ZZ hand hand2 hset g31
        have VB : Hid ((∀ i, 0 ≤ hiF (low y) i ∧ hiF (low y) i ≤ 255) ∧ ∀ i, 0 ≤ (redF s) i ∧ (redF s) i ≤ 255) := by
          have h1 := HLB.out
          refine ⟨fun i => ?_, SBD.out⟩
          have h2 := h1.1 i
          have h3 := h1.1 31
          have h4 := h1.2
          unfold hiF
          split <;> omega
        refine (zzcanon_any w1.heap.size 32 32 (low y) _ (by omega) HLB.out.1 (fun i hi => blk_cell K3.out.1 (row32_get _ i hi))).mono ?_
        rintro e w4 ⟨rfl, hb4⟩
        have K4 : Hid (Kp w w4 w1.heap.size (w2.heap.size + 1) b (low y) (hiF (low y)) (redF s) y) := K3.out.next hb4
        clear hb4 K3
        go_wp2_with fail
        refine (zzcanon_any (w1.heap.size + 1) 32 32 (hiF (low y)) _ (by omega) VB.out.1 (fun i hi => blk_cell K4.out.2.1 (row32_get _ i hi))).mono ?_
        rintro e w5 ⟨rfl, hb5⟩
        have K5 : Hid (Kp w w5 w1.heap.size (w2.heap.size + 1) b (low y) (hiF (low y)) (redF s) y) := K4.out.next hb5
        clear hb5 K4
        go_wp2_with fail
        refine (zzcanon_any (w2.heap.size + 1) 32 32 (redF s) _ (by omega) VB.out.2 (fun i hi => blk_cell K5.out.2.2.1 (row32_get _ i hi))).mono ?_
        rintro e w6 ⟨rfl, hb6⟩
        have K6 : Hid (Kp w w6 w1.heap.size (w2.heap.size + 1) b (low y) (hiF (low y)) (redF s) y) := K5.out.next hb6
        clear hb6 K5
        go_wp2_with fail
        refine (zzcanon_any b n q1 y _ h32 HY.out K6.out.2.2.2.1).mono ?_
        rintro e w7 ⟨rfl, hb7⟩
        have K7 : Hid (Below w.heap.size w w7) := (K6.out.next hb7).2.2.2.2.2
        clear hb7 K6
        obtain ⟨X, hX⟩ : ∃ X, X = canonB (hiF (low y)) := ⟨_, rfl⟩
        have c0 : gB s = true := by rw [E1.out]; rfl
        have c1 : canonB (low y) = false := by rw [CLO.out, c0]; rfl
        have c2 : canonB (hiF (low y)) = false := by rw [CHI.out, c0]; rfl
        have c4 : canonB (redF s) = true := CRE.out c0
        have c3 : canonB y = false := by rw [HCB.out, c1, c2]; simp
        rw [c1, c2, c3, c4]
        clear c0 c1 c2 c3 c4 hX CHI CLO CRE HCB E1 X
        by_cases hs0 : y31 / 128 = 0
        · rw [hs0]
          go_wp2
          go_ret
          exact ⟨rfl, K7.out⟩
        · obtain hs1 : y31 / 128 = 1 := by omega
          rw [hs1]
          clear hs0
          go_wp2
          go_ret
          exact ⟨rfl, K7.out⟩

end Go.Proofs.Qxb6003631aMods
