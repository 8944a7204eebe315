import Derived.Test.Qxb6000476aModsApPre
import Derived.Test.Qxb6000476aModsBuild
namespace Go.Proofs.Qxb6000476aMods
open Go.RowKit
set_option linter.unusedVariables false

set_option maxRecDepth 100000 in
theorem ap_long (nT : Int) (a1 a2 a3 a4 a5 : Option Addr) (m1 m2 m3 m4 m5 c1 c2 c3 c4 c5 : Nat) (w : World) (h : 1024 < m1 ∨ 1024 < m2 ∨ 1024 < m3 ∨ 1024 < m4 ∨ 1024 < m5) :
    Calls Trym.prog 8 #[.int .u8 nT, .slice a1 m1 c1, .slice a2 m2 c2, .slice a3 m3 c3, .slice a4 m4 c4, .slice a5 m5 c5] w fun e w' => e = .returned (.bool true) ∧ Below w.heap.size w w' := by
  go_enter Trym.func8, Trym.ntmps8
  go_wp2_with fail
  refine (bytes19_any _ _ _ _ _ _ _ _ _ _ _ _ _ _ _ _ _).mono ?_
  rintro e w' ⟨⟨x, rfl⟩, hw⟩; rw [hw]; clear hw w'
  cases x with
  | false =>
    go_wp2
    go_ret
    exact ⟨rfl, Below.refl _ _⟩
  | true =>
    by_cases h1 : 1024 < m1
    · go_wp2
      go_ret
      exact ⟨rfl, Below.refl _ _⟩
    by_cases h2 : 1024 < m2
    · go_wp2
      go_ret
      exact ⟨rfl, Below.refl _ _⟩
    by_cases h3 : 1024 < m3
    · go_wp2
      go_ret
      exact ⟨rfl, Below.refl _ _⟩
    by_cases h4 : 1024 < m4
    · go_wp2
      go_ret
      exact ⟨rfl, Below.refl _ _⟩
    have h5 : 1024 < m5 := by omega
    clear h
    go_wp2
    go_ret
    exact ⟨rfl, Below.refl _ _⟩

set_option maxRecDepth 100000 in
theorem ap_unfit (nT : Int) (a1 a2 a3 a4 a5 : Option Addr) (m1 m2 m3 m4 m5 c1 c2 c3 c4 c5 : Nat) (w : World) (h1 : m1 ≤ 1024) (h2 : m2 ≤ 1024) (h3 : m3 ≤ 1024) (h4 : m4 ≤ 1024) (h5 : m5 ≤ 1024)
    (h : Calls Trym.prog 20 #[.int .u8 nT, .slice a1 m1 c1, .slice a2 m2 c2, .slice a3 m3 c3, .slice a4 m4 c4] w fun e w' => e = .returned (.bool false) ∧ w' = w) :
    Calls Trym.prog 8 #[.int .u8 nT, .slice a1 m1 c1, .slice a2 m2 c2, .slice a3 m3 c3, .slice a4 m4 c4, .slice a5 m5 c5] w fun e w' => e = .returned (.bool true) ∧ Below w.heap.size w w' := by
  have H : Hid (Calls Trym.prog 20 #[.int .u8 nT, .slice a1 m1 c1, .slice a2 m2 c2, .slice a3 m3 c3, .slice a4 m4 c4] w fun e w' => e = .returned (.bool false) ∧ w' = w) := h
  clear h
  go_enter Trym.func8, Trym.ntmps8
  go_wp2_with fail
  refine (bytes19_any _ _ _ _ _ _ _ _ _ _ _ _ _ _ _ _ _).mono ?_
  rintro e w' ⟨⟨x, rfl⟩, hw⟩; rw [hw]; clear hw w'
  cases x with
  | false =>
    go_wp2
    go_ret
    exact ⟨rfl, Below.refl _ _⟩
  | true =>
    go_wp2_with fail
    refine H.out.mono ?_
    rintro e w' ⟨rfl, hw⟩; rw [hw]; clear hw w'
    go_wp2
    go_ret
    exact ⟨rfl, Below.refl _ _⟩

/-- The second loop's relation: the tracker stands, the three rows count the first i seats. -/
structure WInv (B : Nat) (l : Lay) (C A N : Nat → Int) (F : FT) (X n : Nat) (c a s : Nat → Int) (w0 wr : World) : Prop where
  trk : Trk B l C A N F wr
  rows : Rows3 X n c a s wr
  below : Below B w0 wr
  hX : B ≤ X

theorem WInv.drewN {B : Nat} {l : Lay} {C A N : Nat → Int} {F : FT} {X n : Nat} {c a s : Nat → Int} {w0 wr : World} (h : WInv B l C A N F X n c a s w0 wr) (q : Nat) : WInv B l C A N F X n c a s w0 (wr.drewN q) :=
  ⟨h.trk.carry (fun _ _ _ h => h), ⟨h.rows.x0, h.rows.x1, h.rows.x2⟩, ⟨h.below.os, h.below.tape, h.below.output, h.below.size, h.below.block⟩, h.hX⟩
theorem WInv.b0 {B : Nat} {l : Lay} {C A N : Nat → Int} {F : FT} {X n : Nat} {c a s c' : Nat → Int} {w0 wr : World} (h : WInv B l C A N F X n c a s w0 wr) (k : Nat) (x : Int) (hc : ∀ j, c' j = if j = k then x else c j) : WInv B l C A N F X n c' a s w0 (wr.setCell ⟨X, k, none⟩ (.int .i64 x)) :=
  ⟨h.trk.setPlain p3 h.rows.x0 _, (h.rows.bump0 k x).congr hc (fun _ => rfl) (fun _ => rfl), h.below.setCell h.hX _, h.hX⟩
theorem WInv.b1 {B : Nat} {l : Lay} {C A N : Nat → Int} {F : FT} {X n : Nat} {c a s a' : Nat → Int} {w0 wr : World} (h : WInv B l C A N F X n c a s w0 wr) (k : Nat) (x : Int) (ha : ∀ j, a' j = if j = k then x else a j) : WInv B l C A N F X n c a' s w0 (wr.setCell ⟨X + 1, k, none⟩ (.int .i64 x)) :=
  ⟨h.trk.setPlain p3 h.rows.x1 _, (h.rows.bump1 k x).congr (fun _ => rfl) ha (fun _ => rfl), h.below.setCell (by have := h.hX; simp only; omega) _, h.hX⟩
theorem WInv.b2 {B : Nat} {l : Lay} {C A N : Nat → Int} {F : FT} {X n : Nat} {c a s s' : Nat → Int} {w0 wr : World} (h : WInv B l C A N F X n c a s w0 wr) (k : Nat) (x : Int) (hs : ∀ j, s' j = if j = k then x else s j) : WInv B l C A N F X n c a s' w0 (wr.setCell ⟨X + 1 + 1, k, none⟩ (.int .i64 x)) :=
  ⟨h.trk.setPlain p3 h.rows.x2 _, (h.rows.bump2 k x).congr (fun _ => rfl) (fun _ => rfl) hs, h.below.setCell (by have := h.hX; simp only; omega) _, h.hX⟩
theorem WInv.same {B : Nat} {l : Lay} {C A N : Nat → Int} {F : FT} {X n : Nat} {c a s c' a' s' : Nat → Int} {w0 wr : World} (h : WInv B l C A N F X n c a s w0 wr) (hc : ∀ j, c' j = c j) (ha : ∀ j, a' j = a j) (hs : ∀ j, s' j = s j) : WInv B l C A N F X n c' a' s' w0 wr :=
  ⟨h.trk, h.rows.congr hc ha hs, h.below, h.hX⟩

set_option maxHeartbeats 4000000 in
set_option maxRecDepth 100000 in
theorem ap_main (n m L : Nat) (a1 a2 a3 a4 a5 : Option Addr) (c1 c2 c3 c4 c5 : Nat) (f g s : Nat → Int) (kk : Nat → Nat) (ap lt : Nat → Bool) (w : World) (hn0 : 0 < n) (hn : n ≤ 255) (hm : m ≤ 1024) (hL : L ≤ 1024)
    (hg : ∀ j, 0 ≤ g j ∧ g j ≤ 4294967295) (hkk : ∀ j, g j % (n : Int) = (kk j : Int))
    (s1 : ArgSl w a1 m c1 (fun i => .int .u32 (f i))) (s2 : ArgSl w a2 m c2 (fun i => .int .u32 (g i))) (s3 : ArgSl w a3 m c3 (fun i => .bool (lt i))) (s4 : ArgSl w a4 m c4 (fun i => .bool (ap i))) (s5 : ArgSl w a5 L c5 (fun i => .int .u32 (s i))) :
    Calls Trym.prog 8 #[.int .u8 n, .slice a1 m c1, .slice a2 m c2, .slice a3 m c3, .slice a4 m c4, .slice a5 L c5] w fun e w' => e = .returned (.bool true) ∧ Below w.heap.size w w' := by
  have hmk := fun w => make_int w n (by omega)
  have HG : Hid (∀ j, 0 ≤ g j ∧ g j ≤ 4294967295) := hg
  have HK : Hid (∀ j, g j % (n : Int) = (kk j : Int)) := hkk
  have S1 : Hid (ArgSl w a1 m c1 (fun i => .int .u32 (f i))) := s1
  have S2 : Hid (ArgSl w a2 m c2 (fun i => .int .u32 (g i))) := s2
  have S3 : Hid (ArgSl w a3 m c3 (fun i => .bool (lt i))) := s3
  have S4 : Hid (ArgSl w a4 m c4 (fun i => .bool (ap i))) := s4
  have S5 : Hid (ArgSl w a5 L c5 (fun i => .int .u32 (s i))) := s5
  clear hg hkk s1 s2 s3 s4 s5
  go_enter Trym.func8, Trym.ntmps8
  go_wp2_with fail
  refine (bytes19_any _ _ _ _ _ _ _ _ _ _ _ _ _ _ _ _ _).mono ?_
  rintro e w' ⟨⟨x, rfl⟩, hw⟩; rw [hw]; clear hw w'
  cases x with
  | false =>
    go_wp2
    go_ret
    exact ⟨rfl, Below.refl _ _⟩
  | true =>
    go_wp2_with fail
    refine (fit_yes n _ _ _ _ m _ _ _ _ _ (by omega)).mono ?_
    rintro e w' ⟨rfl, hw⟩; rw [hw]; clear hw w'
    go_wp2_with fail
    refine (clone21_sl a1 m c1 f w (by omega) S1.out).mono ?_
    rintro e w1 ⟨av, bv, q1, rfl, t1, b1⟩
    have T1 : Hid (SlA w1 av bv m (fun i => .int .u32 (f i)) ∧ Below w.heap.size w w1) := ⟨t1, b1⟩
    clear t1 b1 S1
    go_wp2_with fail
    refine (clone21_sl a2 m c2 g w1 (by omega) (ArgSl.below S2.out T1.out.2)).mono ?_
    rintro e w2 ⟨at_, bt, q2, rfl, t2, b2⟩
    have T2 : Hid (SlA w2 av bv m (fun i => .int .u32 (f i)) ∧ SlA w2 at_ bt m (fun i => .int .u32 (g i)) ∧ Below w.heap.size w w2) := ⟨T1.out.1.below b2, t2, T1.out.2.trans (b2.mono T1.out.2.size)⟩
    clear t2 b2 S2 T1
    go_wp2_with fail
    refine (clone22_sl a3 m c3 lt w2 (by omega) (ArgSl.below S3.out T2.out.2.2)).mono ?_
    rintro e w3 ⟨al, bl, q3, rfl, t3, b3⟩
    have T3 : Hid (SlA w3 av bv m (fun i => .int .u32 (f i)) ∧ SlA w3 at_ bt m (fun i => .int .u32 (g i)) ∧ SlA w3 al bl m (fun i => .bool (lt i)) ∧ Below w.heap.size w w3) := ⟨T2.out.1.below b3, T2.out.2.1.below b3, t3, T2.out.2.2.trans (b3.mono T2.out.2.2.size)⟩
    clear t3 b3 S3 T2
    go_wp2_with fail
    refine (clone22_sl a4 m c4 ap w3 (by omega) (ArgSl.below S4.out T3.out.2.2.2)).mono ?_
    rintro e w4 ⟨aa, ba, q4, rfl, t4, b4⟩
    have T4 : Hid (SlA w4 av bv m (fun i => .int .u32 (f i)) ∧ SlA w4 at_ bt m (fun i => .int .u32 (g i)) ∧ SlA w4 al bl m (fun i => .bool (lt i)) ∧ SlA w4 aa ba m (fun i => .bool (ap i)) ∧ Below w.heap.size w w4) := ⟨T3.out.1.below b4, T3.out.2.1.below b4, T3.out.2.2.1.below b4, t4, T3.out.2.2.2.trans (b4.mono T3.out.2.2.2.size)⟩
    clear t4 b4 S4 T3
    go_wp2_with fail
    refine (clone21_sl a5 L c5 s w4 (by omega) (ArgSl.below S5.out T4.out.2.2.2.2)).mono ?_
    rintro e w5 ⟨as_, bs, q5, rfl, t5, b5⟩
    have S1 : Hid (SlA w5 av bv m (fun i => .int .u32 (f i))) := T4.out.1.below b5
    have S2 : Hid (SlA w5 at_ bt m (fun i => .int .u32 (g i))) := T4.out.2.1.below b5
    have S3 : Hid (SlA w5 al bl m (fun i => .bool (lt i))) := T4.out.2.2.1.below b5
    have S4 : Hid (SlA w5 aa ba m (fun i => .bool (ap i))) := T4.out.2.2.2.1.below b5
    have S6 : Hid (SlA w5 as_ bs L (fun i => .int .u32 (s i))) := t5
    have HB5 : Hid (Below w.heap.size w w5) := T4.out.2.2.2.2.trans (b5.mono T4.out.2.2.2.2.size)
    clear t5 b5 S5 T4
    go_wp2_with fail
    refine (build_any n m av at_ al aa bv bt bl ba _ _ _ _ f g kk ap lt w5 hn0 hn hm HG.out HK.out S1.out S2.out S3.out S4.out).mono ?_
    rintro e w6 ⟨l, rfl, hln, htrk, hbel⟩
    have HT0 : Hid (Trk w5.heap.size l (cC f kk m) (cA f kk (fin f ap s 0) m) (cN f kk lt (fin f ap s 0) m) (scrF (seatF f kk ap lt m) s 0) w6) := by
      rw [fin_zero]; exact htrk
    have HB6 : Hid (Below w5.heap.size w5 w6) := hbel
    clear htrk hbel
    go_wp2
    go_loopw [14] (fun j wr => ∃ (k : Nat), k ≤ L ∧ j = .int .i64 k ∧ Trk w5.heap.size l (cC f kk m) (cA f kk (fin f ap s k) m) (cN f kk lt (fin f ap s k) m) (scrF (seatF f kk ap lt m) s k) wr ∧ Below w5.heap.size w5 wr) (fun j _ => L - (intOf j).toNat)
    case atStart => exact ⟨0, Nat.zero_le _, rfl, HT0.out, HB6.out⟩
    case round =>
      obtain ⟨k, hk, rfl, hT, hB⟩ := hrel
      have HT : Hid (Trk w5.heap.size l (cC f kk m) (cA f kk (fin f ap s k) m) (cN f kk lt (fin f ap s k) m) (scrF (seatF f kk ap lt m) s k) wr) := hT
      have HB : Hid (Below w5.heap.size w5 wr) := hB
      by_cases hlt : k < L
      · obtain ⟨rfl, slt, sc⟩ := S6.out (by omega)
        have k1 : wr.cell? ⟨bs, k, none⟩ = some (.int .u32 (s k)) := (hB.cell (p := ⟨bs, k, none⟩) slt).trans (sc k hlt)
        clear sc hT hB
        go_wp2_with fail
        refine (approve_any (s k) wr HT.out (fun q => ?_)).mono ?_
        · obtain ⟨d1, d1'⟩ := cnt_bd (fun j => fsB f j && decide (kk j = q) && fin f ap s k j) m
          obtain ⟨d2, d2'⟩ := cnt_bd (fun j => fsB f j && decide (kk j = q) && (!fin f ap s k j && lt j)) m
          change 0 ≤ cA f kk (fin f ap s k) m q at d1
          change cA f kk (fin f ap s k) m q ≤ m at d1'
          change 0 ≤ cN f kk lt (fin f ap s k) m q at d2
          change cN f kk lt (fin f ap s k) m q ≤ m at d2'
          omega
        rintro e w7 ⟨rfl, htr, hfr⟩
        have HN : Hid (Trk w5.heap.size l (cC f kk m) (cA f kk (fin f ap s (k + 1)) m) (cN f kk lt (fin f ap s (k + 1)) m) (scrF (seatF f kk ap lt m) s (k + 1)) w7) :=
          htr.congrN (fun _ _ => rfl) (fun j _ => (step_A f kk ap lt m s k j).symm) (fun j _ => (step_N f kk ap lt m s k j).symm)
        have HB7 : Hid (Below w5.heap.size w5 w7) := HB.out.trans hfr.below
        clear htr hfr
        go_wp2
        go_roundw
        case rel => exact ⟨k + 1, by omega, by go_num, HN.out, HB7.out⟩
        case measure => simp [intOf]; omega
      · obtain rfl : k = L := by omega
        clear hT hB HT0 HB6 hlt hk
        obtain ⟨wa, hwa⟩ : ∃ wa : World, wa = wr := ⟨_, rfl⟩
        rw [← hwa] at HT HB ⊢
        clear hwa
        go_wp2
        obtain ⟨F, hF⟩ : ∃ F, F = scrF (seatF f kk ap lt m) s k := ⟨_, rfl⟩
        obtain ⟨q, hq⟩ : ∃ q, q = fin f ap s k := ⟨_, rfl⟩
        rw [← hF, ← hq] at HT
        have HF1 : Hid (∀ i, i < m → fsB f i = true → apOf F (f i) = (ap i || inB s k (f i))) := by
          intro i hi hf
          rw [hF]
          exact ap_seat f kk ap lt m s k i hi hf
        have HF2 : Hid (∀ j, j < k → apOf F (s j) = true) := by
          intro j hj
          rw [hF]
          exact ap_script f kk ap lt m s k j hj
        have HQ : Hid (∀ i, q i = (ap i || inB s k (f i))) := by
          intro i
          rw [hq]
          rfl
        clear hF hq
        go_loopw [19] (fun j wr => ∃ (i : Nat), i ≤ m ∧ j = .int .i64 i ∧ WInv w5.heap.size l (cC f kk m) (cA f kk q m) (cN f kk lt q m) F wa.heap.size n (cC f kk i) (cA f kk q i) (cN f kk lt q i) w5 wr) (fun j _ => m - (intOf j).toNat)
        case atStart =>
          refine ⟨0, Nat.zero_le _, rfl, ((HT.out.alloc _).alloc _).alloc _, rows3_made wa n, ?_, HB.out.size⟩
          exact ((HB.out.alloc HB.out.size _).alloc (by have := HB.out.size; simp; omega) _).alloc (by have := HB.out.size; simp; omega) _
        case round =>
          obtain ⟨i, hi, rfl, hinv⟩ := hrel
          have HI : Hid (WInv w5.heap.size l (cC f kk m) (cA f kk q m) (cN f kk lt q m) F wa.heap.size n (cC f kk i) (cA f kk q i) (cN f kk lt q i) w5 wr) := hinv
          by_cases hlt : i < m
          · obtain ⟨rfl, vlt, vc⟩ := S1.out (by omega)
            obtain ⟨rfl, tlt, tc⟩ := S2.out (by omega)
            obtain ⟨rfl, llt, lc⟩ := S3.out (by omega)
            obtain ⟨rfl, alt, ac⟩ := S4.out (by omega)
            have hcells : ∀ j, j < m → wr.cell? ⟨bv, j, none⟩ = some (.int .u32 (f j)) := fun j hj => (hinv.below.cell (p := ⟨bv, j, none⟩) vlt).trans (vc j hj)
            have hfs := firstSeat_any bv m q1 i f wr hm hlt hcells
            have HZ1 : Hid (w5.heap.size ≤ wa.heap.size) := hinv.hX
            clear hinv hcells
            cases hf : fsB f i with
            | false =>
              rw [hf] at hfs
              have HS := (show Hid _ from hfs)
              have HN : Hid (WInv w5.heap.size l (cC f kk m) (cA f kk q m) (cN f kk lt q m) F wa.heap.size n (cC f kk (i + 1)) (cA f kk q (i + 1)) (cN f kk lt q (i + 1)) w5 wr) :=
                HI.out.same (fun j => cC_skip f kk i j hf) (fun j => cA_miss f kk q i j (.inl hf)) (fun j => cN_miss f kk lt q i j (.inl hf))
              clear hfs hf vc tc lc ac
              go_wp2_with fail
              refine Calls.mono HS.out ?_
              rintro e w7 ⟨rfl, qd, rfl⟩
              go_wp2
              go_roundw
              case rel => exact ⟨i + 1, by omega, by go_num, HN.out.drewN qd⟩
              case measure => simp [intOf]; omega
            | true =>
              rw [hf] at hfs
              have HS := (show Hid _ from hfs)
              have HFS : Hid (fsB f i = true) := hf
              obtain ⟨g0, g1⟩ := HG.out i
              have hK := HK.out i
              have hKn : kk i < n := by
                have h1 := Int.emod_lt_of_pos (g i) (show (0 : Int) < n by omega)
                omega
              have hnz : ((n : Int) == 0) = false := beq_eq_false_iff_ne.2 (by omega)
              have l1 : (i : Int) < (m : Int) := by omega
              have l2 : (kk i : Int) < (n : Int) := by omega
              clear hfs hf
              go_wp2_with fail
              refine Calls.mono HS.out ?_
              rintro e w7 ⟨rfl, qd, hw7⟩
              have hinv : WInv w5.heap.size l (cC f kk m) (cA f kk q m) (cN f kk lt q m) F wa.heap.size n (cC f kk i) (cA f kk q i) (cN f kk lt q i) w5 w7 := by
                rw [hw7]; exact HI.out.drewN qd
              have HI7 := (show Hid _ from hinv)
              have k1 : w7.cell? ⟨bv, i, none⟩ = some (.int .u32 (f i)) := (hinv.below.cell (p := ⟨bv, i, none⟩) vlt).trans (vc i hlt)
              have k2 : w7.cell? ⟨bt, i, none⟩ = some (.int .u32 (g i)) := (hinv.below.cell (p := ⟨bt, i, none⟩) tlt).trans (tc i hlt)
              have k3 : w7.cell? ⟨bl, i, none⟩ = some (.bool (lt i)) := (hinv.below.cell (p := ⟨bl, i, none⟩) llt).trans (lc i hlt)
              have k4 : w7.cell? ⟨ba, i, none⟩ = some (.bool (ap i)) := (hinv.below.cell (p := ⟨ba, i, none⟩) alt).trans (ac i hlt)
              have hsc : Hid (∀ j, j < k → w7.cell? ⟨bs, j, none⟩ = some (.int .u32 (s j))) := fun j hj => by
                obtain ⟨_, slt, sc⟩ := S6.out (by omega)
                exact (hinv.below.cell (p := ⟨bs, j, none⟩) slt).trans (sc j hj)
              have hso : Hid (0 < k → as_ = some ⟨bs, 0, none⟩) := fun h => (S6.out h).1
              obtain ⟨⟨x0, f0⟩, ⟨x1, f1⟩, ⟨x2, f2⟩⟩ := hinv.rows.facts hKn
              have hne1 : ∀ y : Nat, y < w5.heap.size → y ≠ wa.heap.size := fun y hy => by have := HZ1.out; omega
              have j1 := hne1 bv vlt
              have j3 := hne1 bl llt
              have e1 : ∀ x, (w7.setCell ⟨wa.heap.size, kk i, none⟩ x).cell? ⟨bv, i, none⟩ = some (.int .u32 (f i)) := fun x => by
                rw [World.cell?_of_block (w := w7) (Below.heap_setCell _ _ _ _ j1)]; exact k1
              have e3 : ∀ x, (w7.setCell ⟨wa.heap.size, kk i, none⟩ x).cell? ⟨bl, i, none⟩ = some (.bool (lt i)) := fun x => by
                rw [World.cell?_of_block (w := w7) (Below.heap_setCell _ _ _ _ j3)]; exact k3
              have y1 : ∀ x, (w7.setCell ⟨wa.heap.size, kk i, none⟩ x).cell? ⟨wa.heap.size + 1, kk i, none⟩ = some (.int .i64 (cA f kk q i (kk i))) := fun x => by
                rw [World.cell?_of_block (w := w7) (Below.heap_setCell _ _ _ _ (by simp))]; exact x1
              have y2 : ∀ x, (w7.setCell ⟨wa.heap.size, kk i, none⟩ x).cell? ⟨wa.heap.size + 1 + 1, kk i, none⟩ = some (.int .i64 (cN f kk lt q i (kk i))) := fun x => by
                rw [World.cell?_of_block (w := w7) (Below.heap_setCell _ _ _ _ (by simp; omega))]; exact x2
              have z1 : ∀ x, (w7.setCell ⟨wa.heap.size, kk i, none⟩ x).frozen? ⟨wa.heap.size + 1, kk i, none⟩ = false := fun x => by
                rw [World.frozen?_of_block (w := w7) (Below.heap_setCell _ _ _ _ (by simp))]; exact f1
              have z2 : ∀ x, (w7.setCell ⟨wa.heap.size, kk i, none⟩ x).frozen? ⟨wa.heap.size + 1 + 1, kk i, none⟩ = false := fun x => by
                rw [World.frozen?_of_block (w := w7) (Below.heap_setCell _ _ _ _ (by simp; omega))]; exact f2
              have e1a : ∀ x y, ((w7.setCell ⟨wa.heap.size, kk i, none⟩ x).setCell ⟨wa.heap.size + 1, kk i, none⟩ y).cell? ⟨bv, i, none⟩ = some (.int .u32 (f i)) := fun x y => by
                rw [World.cell?_of_block (w := w7.setCell ⟨wa.heap.size, kk i, none⟩ x) (Below.heap_setCell _ _ _ _ (by have := HZ1.out; simp only; omega))]; exact e1 x
              have e1n : ∀ x y, ((w7.setCell ⟨wa.heap.size, kk i, none⟩ x).setCell ⟨wa.heap.size + 1 + 1, kk i, none⟩ y).cell? ⟨bv, i, none⟩ = some (.int .u32 (f i)) := fun x y => by
                rw [World.cell?_of_block (w := w7.setCell ⟨wa.heap.size, kk i, none⟩ x) (Below.heap_setCell _ _ _ _ (by have := HZ1.out; simp only; omega))]; exact e1 x
              obtain ⟨d0, d0'⟩ := cnt_bd (fun j => fsB f j && decide (kk j = kk i)) i
              obtain ⟨d1, d1'⟩ := cnt_bd (fun j => fsB f j && decide (kk j = kk i) && q j) i
              obtain ⟨d2, d2'⟩ := cnt_bd (fun j => fsB f j && decide (kk j = kk i) && (!q j && lt j)) i
              change 0 ≤ cC f kk i (kk i) at d0
              change cC f kk i (kk i) ≤ i at d0'
              change 0 ≤ cA f kk q i (kk i) at d1
              change cA f kk q i (kk i) ≤ i at d1'
              change 0 ≤ cN f kk lt q i (kk i) at d2
              change cN f kk lt q i (kk i) ≤ i at d2'
              have HC := (show Hid _ from hinv.b0 (c' := cC f kk (i + 1)) (kk i) (cC f kk i (kk i) + 1) (fun j => cC_succ f kk i j HFS.out))
              have HAp := HF1.out i hlt HFS.out
              have HQi := HQ.out i
              clear hinv x1 x2 f1 f2 vc tc lc ac hw7 hne1 j1 j3 HI HI7
              cases ha : ap i with
              | true =>
                have hqi : q i = true := by rw [HQi, ha]; rfl
                have HNf := (show Hid _ from (HC.out.b1 (a' := cA f kk q (i + 1)) (kk i) (cA f kk q i (kk i) + 1) (fun j => cA_hit f kk q i j HFS.out hqi)).same (s' := cN f kk lt q (i + 1)) (fun _ => rfl) (fun _ => rfl) (fun j => cN_miss f kk lt q i j (.inr (.inl hqi))))
                have HP : Hid (apOf F (f i) = true) := by rw [ha] at HAp; exact HAp
                rw [ha] at k4
                clear ha hqi HAp HQi
                go_wp2_with fail
                refine (approved_any (f i) _ HNf.out.trk).mono ?_
                rintro e w8 ⟨rfl, hw⟩; rw [hw]; clear hw w8
                rw [HP.out]
                go_wp2
                go_roundw
                case rel => exact ⟨i + 1, by omega, by go_num, HNf.out⟩
                case measure => simp [intOf]; omega
              | false =>
                rw [ha] at k4 HAp HQi
                simp only [Bool.false_or] at HAp HQi
                go_wp2_with fail
                refine (inScript_any as_ bs k q5 s (f i) _ hL hso.out hsc.out).mono ?_
                rintro e w8 ⟨rfl, hw⟩; rw [hw]; clear hw w8
                cases hy : inB s k (f i) with
                | true =>
                  have hqi : q i = true := by rw [HQi, hy]
                  have HNf := (show Hid _ from (HC.out.b1 (a' := cA f kk q (i + 1)) (kk i) (cA f kk q i (kk i) + 1) (fun j => cA_hit f kk q i j HFS.out hqi)).same (s' := cN f kk lt q (i + 1)) (fun _ => rfl) (fun _ => rfl) (fun j => cN_miss f kk lt q i j (.inr (.inl hqi))))
                  have HP : Hid (apOf F (f i) = true) := by rw [hy] at HAp; exact HAp
                  clear ha hy hqi HAp HQi
                  go_wp2_with fail
                  refine (approved_any (f i) _ HNf.out.trk).mono ?_
                  rintro e w8 ⟨rfl, hw⟩; rw [hw]; clear hw w8
                  rw [HP.out]
                  go_wp2
                  go_roundw
                  case rel => exact ⟨i + 1, by omega, by go_num, HNf.out⟩
                  case measure => simp [intOf]; omega
                | false =>
                  have hqi : q i = false := by rw [HQi, hy]
                  have HP : Hid (apOf F (f i) = false) := by rw [hy] at HAp; exact HAp
                  cases hl : lt i with
                  | true =>
                    have HNf := (show Hid _ from (HC.out.b2 (s' := cN f kk lt q (i + 1)) (kk i) (cN f kk lt q i (kk i) + 1) (fun j => cN_hit f kk lt q i j HFS.out hqi hl)).same (a' := cA f kk q (i + 1)) (fun _ => rfl) (fun j => cA_miss f kk q i j (.inr hqi)) (fun _ => rfl))
                    rw [hl] at e3
                    clear ha hy hqi HAp HQi hl
                    go_wp2_with fail
                    refine (approved_any (f i) _ HNf.out.trk).mono ?_
                    rintro e w8 ⟨rfl, hw⟩; rw [hw]; clear hw w8
                    rw [HP.out]
                    go_wp2
                    go_roundw
                    case rel => exact ⟨i + 1, by omega, by go_num, HNf.out⟩
                    case measure => simp [intOf]; omega
                  | false =>
                    have HNf := (show Hid _ from HC.out.same (a' := cA f kk q (i + 1)) (s' := cN f kk lt q (i + 1)) (fun _ => rfl) (fun j => cA_miss f kk q i j (.inr hqi)) (fun j => cN_miss f kk lt q i j (.inr (.inr hl))))
                    rw [hl] at e3
                    clear ha hy hqi HAp HQi hl
                    go_wp2_with fail
                    refine (approved_any (f i) _ HNf.out.trk).mono ?_
                    rintro e w8 ⟨rfl, hw⟩; rw [hw]; clear hw w8
                    rw [HP.out]
                    go_wp2
                    go_roundw
                    case rel => exact ⟨i + 1, by omega, by go_num, HNf.out⟩
                    case measure => simp [intOf]; omega
          · obtain rfl : i = m := by omega
            clear hinv hlt hi HT HB S1 S2 S3 S4 HG HK HF1 HQ
            obtain ⟨wb, hwb⟩ : ∃ wb : World, wb = wr := ⟨_, rfl⟩
            rw [← hwb] at HI ⊢
            clear hwb
            go_wp2
            go_loopw [22] (fun j wr => ∃ (k : Nat), k ≤ n ∧ j = .int .i64 k ∧ WInv w5.heap.size l (cC f kk i) (cA f kk q i) (cN f kk lt q i) F wa.heap.size n (cC f kk i) (cA f kk q i) (cN f kk lt q i) w5 wr) (fun j _ => n - (intOf j).toNat)
            case atStart => exact ⟨0, Nat.zero_le _, rfl, HI.out⟩
            case round =>
              obtain ⟨t, ht, rfl, hinv⟩ := hrel
              have HI3 := (show Hid _ from hinv)
              by_cases hlt : t < n
              · have htal := tally_any t wr hinv.trk (by rw [hln]; exact hlt) (by rw [hln]; exact hn)
                have HTA := (show Hid _ from htal)
                clear htal hinv
                go_wp2_with fail
                refine Calls.mono HTA.out ?_
                rintro e w7 ⟨rfl, qd, hw7⟩
                have hinv := HI3.out.drewN qd
                rw [← hw7] at hinv
                have HI4 := (show Hid _ from hinv)
                obtain ⟨⟨x0, f0⟩, ⟨x1, f1⟩, ⟨x2, f2⟩⟩ := hinv.rows.facts hlt
                clear hinv hw7 f0 f1 f2
                have l1 : (t : Int) < (n : Int) := by omega
                go_wp2
                go_roundw
                case rel => exact ⟨t + 1, by omega, by go_num, HI4.out⟩
                case measure => simp [intOf]; omega
              · clear hinv
                obtain ⟨wc, hwc⟩ : ∃ wc : World, wc = wr := ⟨_, rfl⟩
                rw [← hwc] at HI3 ⊢
                clear hwc HI
                go_wp2
                go_loop [26] (fun j => ∃ (t : Nat), t ≤ k ∧ j = .int .i64 t) (fun j => k - (intOf j).toNat)
                case atStart => exact ⟨0, Nat.zero_le _, rfl⟩
                case round =>
                  obtain ⟨u, hu, rfl⟩ := hrel
                  by_cases hlu : u < k
                  · obtain ⟨rfl, slt, sc⟩ := S6.out (by omega)
                    have k1 : wc.cell? ⟨bs, u, none⟩ = some (.int .u32 (s u)) := (WInv.below HI3.out |>.cell (p := ⟨bs, u, none⟩) slt).trans (sc u hlu)
                    have HP : Hid (apOf F (s u) = true) := HF2.out u hlu
                    clear sc
                    go_wp2_with fail
                    refine (approved_any (s u) _ (WInv.trk HI3.out)).mono ?_
                    rintro e w8 ⟨rfl, hw⟩; rw [hw]; clear hw w8
                    rw [HP.out]
                    go_wp2
                    go_round
                    case rel => exact ⟨u + 1, by omega, by go_num⟩
                    case measure => simp [intOf]; omega
                  · go_wp2
                    go_ret
                    exact ⟨rfl, HB5.out.trans ((WInv.below HI3.out).mono HB5.out.size)⟩

end Go.Proofs.Qxb6000476aMods
