import Derived.Test.Qxb6000476aModsRow3
import Derived.Deep.RegionWith
namespace Go.Proofs.Qxb6000476aMods
open Go.RowKit
set_option linter.unusedVariables false

def BInv (w : World) (l : Lay) (X n : Nat) (f : Nat → Int) (kk : Nat → Nat) (ap lt : Nat → Bool) (i : Nat) (wr : World) : Prop :=
  Trk w.heap.size l (fun _ => 0) (fun _ => 0) (fun _ => 0) (seatF f kk ap lt i) wr ∧ Rows3 X n (cC f kk i) (cA f kk ap i) (cN f kk lt ap i) wr ∧ Below w.heap.size w wr ∧ w.heap.size ≤ X

theorem make_int (w : World) (n : Nat) (hn : n ≤ 1048576) : (Instr.makeSlice 26 (.int .i64 (n : Int)) (.int .i64 (n : Int))).run Trym.prog w = .ok (.slice (some ⟨w.heap.size, 0, none⟩) n n) (w.alloc (.cells (intRow n fun _ => 0) 3)) := make26 w n hn

def BuildPost (w : World) (n m : Nat) (f : Nat → Int) (kk : Nat → Nat) (ap lt : Nat → Bool) (e : Ending) (w' : World) : Prop :=
  ∃ l : Lay, e = .returned (.pointer (some ⟨l.T, 0, none⟩)) ∧ l.n = n ∧ Trk w.heap.size l (cC f kk m) (cA f kk ap m) (cN f kk lt ap m) (seatF f kk ap lt m) w' ∧ Below w.heap.size w w'

theorem BInv.skip {w wr : World} {l : Lay} {X n : Nat} {f : Nat → Int} {kk : Nat → Nat} {ap lt : Nat → Bool} {i : Nat} (h : BInv w l X n f kk ap lt i wr) (hf : fsB f i = false) : BInv w l X n f kk ap lt (i + 1) wr := by
  obtain ⟨h1, h2, h3, h4⟩ := h
  refine ⟨?_, h2.congr (fun j => cC_skip f kk i j hf) (fun j => cA_miss f kk ap i j (.inl hf)) (fun j => cN_miss f kk lt ap i j (.inl hf)), h3, h4⟩
  obtain ⟨c, h1⟩ := h1
  refine ⟨c, h1.congr (fun _ => rfl) (fun _ => rfl) (fun _ => rfl) (fun u => ?_)⟩
  have : (seatF f kk ap lt i (f i)).isSome = true := by rw [seatF_isSome, hf]; rfl
  simp [seatF, this]

/-- Behind the seating: the row of checkers is raised. -/
theorem BInv.seated {w wr w1 : World} {l : Lay} {X n : Nat} {f : Nat → Int} {kk : Nat → Nat} {ap lt : Nat → Bool} {i : Nat} (h : BInv w l X n f kk ap lt i wr) (hf : fsB f i = true)
    (ht : Trk w.heap.size l (fun _ => 0) (fun _ => 0) (fun _ => 0) (fun u => if u = f i then some (some (kk i), ap i, lt i) else seatF f kk ap lt i u) w1) (fr : Fr w.heap.size wr w1) :
    Trk w.heap.size l (fun _ => 0) (fun _ => 0) (fun _ => 0) (seatF f kk ap lt (i + 1)) (w1.setCell ⟨X, kk i, none⟩ (.int .i64 (cC f kk i (kk i) + 1))) ∧
    Rows3 X n (cC f kk (i + 1)) (cA f kk ap i) (cN f kk lt ap i) (w1.setCell ⟨X, kk i, none⟩ (.int .i64 (cC f kk i (kk i) + 1))) ∧ Below w.heap.size w (w1.setCell ⟨X, kk i, none⟩ (.int .i64 (cC f kk i (kk i) + 1))) := by
  obtain ⟨h1, h2, h3, h4⟩ := h
  have r1 := h2.fr fr
  have hn : (seatF f kk ap lt i (f i)).isSome = false := by rw [seatF_isSome, hf]; rfl
  refine ⟨?_, ((r1.bump0 (kk i) (cC f kk i (kk i) + 1)).congr (fun j => cC_succ f kk i j hf) (fun _ => rfl) (fun _ => rfl)), (h3.trans fr.below).setCell h4 _⟩
  have t1 := ht.setPlain (i := kk i) p3 r1.x0 (.int .i64 (cC f kk i (kk i) + 1))
  obtain ⟨c, t1⟩ := t1
  refine ⟨c, t1.congr (fun _ => rfl) (fun _ => rfl) (fun _ => rfl) (fun u => ?_)⟩
  simp [seatF, hn]

theorem BInv.seatAp {w w2 : World} {l : Lay} {X n : Nat} {f : Nat → Int} {kk : Nat → Nat} {ap lt : Nat → Bool} {i : Nat} (h4 : w.heap.size ≤ X)
    (h : Trk w.heap.size l (fun _ => 0) (fun _ => 0) (fun _ => 0) (seatF f kk ap lt (i + 1)) w2 ∧ Rows3 X n (cC f kk (i + 1)) (cA f kk ap i) (cN f kk lt ap i) w2 ∧ Below w.heap.size w w2) (hf : fsB f i = true) (ha : ap i = true) :
    BInv w l X n f kk ap lt (i + 1) (w2.setCell ⟨X + 1, kk i, none⟩ (.int .i64 (cA f kk ap i (kk i) + 1))) := by
  obtain ⟨h1, h2, h3⟩ := h
  exact ⟨h1.setPlain p3 h2.x1 _, (h2.bump1 (kk i) _).congr (fun _ => rfl) (fun j => cA_hit f kk ap i j hf ha) (fun j => cN_miss f kk lt ap i j (.inr (.inl ha))), h3.setCell (by simp only; omega) _, h4⟩

theorem BInv.seatLate {w w2 : World} {l : Lay} {X n : Nat} {f : Nat → Int} {kk : Nat → Nat} {ap lt : Nat → Bool} {i : Nat} (h4 : w.heap.size ≤ X)
    (h : Trk w.heap.size l (fun _ => 0) (fun _ => 0) (fun _ => 0) (seatF f kk ap lt (i + 1)) w2 ∧ Rows3 X n (cC f kk (i + 1)) (cA f kk ap i) (cN f kk lt ap i) w2 ∧ Below w.heap.size w w2) (hf : fsB f i = true) (ha : ap i = false) (hl : lt i = true) :
    BInv w l X n f kk ap lt (i + 1) (w2.setCell ⟨X + 2, kk i, none⟩ (.int .i64 (cN f kk lt ap i (kk i) + 1))) := by
  obtain ⟨h1, h2, h3⟩ := h
  exact ⟨h1.setPlain p3 h2.x2 _, (h2.bump2 (kk i) _).congr (fun _ => rfl) (fun j => cA_miss f kk ap i j (.inr ha)) (fun j => cN_hit f kk lt ap i j hf ha hl), h3.setCell (by simp only; omega) _, h4⟩

theorem BInv.seatBare {w w2 : World} {l : Lay} {X n : Nat} {f : Nat → Int} {kk : Nat → Nat} {ap lt : Nat → Bool} {i : Nat} (h4 : w.heap.size ≤ X)
    (h : Trk w.heap.size l (fun _ => 0) (fun _ => 0) (fun _ => 0) (seatF f kk ap lt (i + 1)) w2 ∧ Rows3 X n (cC f kk (i + 1)) (cA f kk ap i) (cN f kk lt ap i) w2 ∧ Below w.heap.size w w2) (hf : fsB f i = true) (ha : ap i = false) (hl : lt i = false) :
    BInv w l X n f kk ap lt (i + 1) w2 := by
  obtain ⟨h1, h2, h3⟩ := h
  exact ⟨h1, h2.congr (fun _ => rfl) (fun j => cA_miss f kk ap i j (.inr ha)) (fun j => cN_miss f kk lt ap i j (.inr (.inr hl))), h3, h4⟩

theorem Trk.congrN {B : Nat} {l : Lay} {C A N C' A' N' : Nat → Int} {F : FT} {w : World} (h : Trk B l C A N F w)
    (hC : ∀ j, j < l.n → C' j = C j) (hA : ∀ j, j < l.n → A' j = A j) (hN : ∀ j, j < l.n → N' j = N j) : Trk B l C' A' N' F w := by
  obtain ⟨c, h⟩ := h
  exact ⟨c, h.hT, h.hM, h.hp, h.hc, h.tr, h.row, fun i hi => by rw [hC i hi, hA i hi, hN i hi]; exact h.tal i hi, h.pinj, h.mp, h.chk, h.non, h.cinj⟩

def upTo (k : Nat) (x : Nat → Int) : Nat → Int := fun j => if j < k then x j else 0

theorem upTo_step (k : Nat) (x : Nat → Int) (j : Nat) : upTo (k + 1) x j = if j = k then x k else upTo k x j := by
  unfold upTo
  by_cases e : j = k
  · subst e; simp
  · have : (j < k + 1) = (j < k) := by simp; omega
    simp [e, this]

set_option maxHeartbeats 2000000 in
set_option maxRecDepth 100000 in
theorem build_any (n m : Nat) (av at_ al aa : Option Addr) (bv bt bl ba c1 c2 c3 c4 : Nat) (f g : Nat → Int) (kk : Nat → Nat) (ap lt : Nat → Bool) (w : World) (hn0 : 0 < n) (hn : n ≤ 255) (hm : m ≤ 1024)
    (hg : ∀ j, 0 ≤ g j ∧ g j ≤ 4294967295) (hkk : ∀ j, g j % (n : Int) = (kk j : Int))
    (sv : SlA w av bv m (fun j => .int .u32 (f j))) (st : SlA w at_ bt m (fun j => .int .u32 (g j))) (sl : SlA w al bl m (fun j => .bool (lt j))) (sa : SlA w aa ba m (fun j => .bool (ap j))) :
    Calls Trym.prog 23 #[.int .u8 n, .slice av m c1, .slice at_ m c2, .slice al m c3, .slice aa m c4] w fun e w' => BuildPost w n m f kk ap lt e w' := by
  have hmk := fun w => make_int w n (by omega)
  have HG : Hid (∀ j, 0 ≤ g j ∧ g j ≤ 4294967295) := hg
  have HK : Hid (∀ j, g j % (n : Int) = (kk j : Int)) := hkk
  have SV : Hid (SlA w av bv m (fun j => .int .u32 (f j))) := sv
  have ST : Hid (SlA w at_ bt m (fun j => .int .u32 (g j))) := st
  have SL : Hid (SlA w al bl m (fun j => .bool (lt j))) := sl
  have SA : Hid (SlA w aa ba m (fun j => .bool (ap j))) := sa
  clear hg hkk sv st sl sa
  go_enter Trym.func23, Trym.ntmps23
  go_wp2_with fail
  refine (newTracker_any n w hn0 hn).mono ?_
  rintro e w1 ⟨l, rfl, hln, htrk, hbel⟩
  have hX : w.heap.size ≤ w1.heap.size := hbel.size
  have H0 : Hid (Trk w.heap.size l (fun _ => 0) (fun _ => 0) (fun _ => 0) (fun _ => none) w1) := htrk
  have HB : Hid (Below w.heap.size w w1) := hbel
  clear htrk hbel
  go_wp2
  go_loopw [16] (fun i wr => ∃ (k : Nat), k ≤ m ∧ i = .int .i64 k ∧ BInv w l w1.heap.size n f kk ap lt k wr) (fun i _ => m - (intOf i).toNat)
  case atStart =>
    refine ⟨0, Nat.zero_le _, rfl, ?_, ?_, ?_, hX⟩
    · exact ((H0.out.alloc _).alloc _).alloc _
    · exact rows3_made w1 n
    · exact ((HB.out.alloc (by omega) _).alloc (by simp; omega) _).alloc (by simp; omega) _
  case round =>
    obtain ⟨i, hi, rfl, hinv⟩ := hrel
    have HI : Hid (BInv w l w1.heap.size n f kk ap lt i wr) := hinv
    by_cases hlt : i < m
    · obtain ⟨rfl, vlt, vc⟩ := SV.out (by omega)
      obtain ⟨rfl, tlt, tc⟩ := ST.out (by omega)
      obtain ⟨rfl, llt, lc⟩ := SL.out (by omega)
      obtain ⟨rfl, alt, ac⟩ := SA.out (by omega)
      have k1 : wr.cell? ⟨bv, i, none⟩ = some (.int .u32 (f i)) := (hinv.2.2.1.cell (p := ⟨bv, i, none⟩) vlt).trans (vc i hlt)
      have k2 : wr.cell? ⟨bt, i, none⟩ = some (.int .u32 (g i)) := (hinv.2.2.1.cell (p := ⟨bt, i, none⟩) tlt).trans (tc i hlt)
      have k3 : wr.cell? ⟨bl, i, none⟩ = some (.bool (lt i)) := (hinv.2.2.1.cell (p := ⟨bl, i, none⟩) llt).trans (lc i hlt)
      have k4 : wr.cell? ⟨ba, i, none⟩ = some (.bool (ap i)) := (hinv.2.2.1.cell (p := ⟨ba, i, none⟩) alt).trans (ac i hlt)
      have hsd := seated_any (f i) wr hinv.1
      rw [seatF_isSome] at hsd
      have HZ : Hid (w.heap.size ≤ wr.heap.size) := by have := hinv.2.2.1.size; exact this
      clear vc tc lc ac hinv
      cases hf : fsB f i with
      | false =>
        rw [hf] at hsd
        have HS : Hid (Calls Trym.prog 34 #[.pointer (some ⟨l.T, 0, none⟩), .int .u32 (f i)] wr fun e w' => e = .returned (.bool (!false)) ∧ w' = wr) := hsd
        have HN : Hid (BInv w l w1.heap.size n f kk ap lt (i + 1) wr) := HI.out.skip hf
        clear hsd hf
        go_wp2_with fail
        refine HS.out.mono ?_
        rintro e w' ⟨rfl, hw⟩; rw [hw]; clear hw w'
        go_wp2
        go_roundw
        case rel => exact ⟨i + 1, by omega, by go_num, HN.out⟩
        case measure => simp [intOf]; omega
      | true =>
        rw [hf] at hsd
        have HS : Hid (Calls Trym.prog 34 #[.pointer (some ⟨l.T, 0, none⟩), .int .u32 (f i)] wr fun e w' => e = .returned (.bool (!true)) ∧ w' = wr) := hsd
        have HF : Hid (fsB f i = true) := hf
        have HFn : Hid (seatF f kk ap lt i (f i) = none) := by
          show seatF f kk ap lt i (f i) = none
          have := seatF_isSome f kk ap lt i
          rw [hf] at this
          simpa using this
        obtain ⟨g0, g1⟩ := HG.out i
        have hK := HK.out i
        have hKn : kk i < n := by
          have h1 := Int.emod_lt_of_pos (g i) (show (0 : Int) < n by omega)
          omega
        have hnz : ((n : Int) == 0) = false := beq_eq_false_iff_ne.2 (by omega)
        have l1 : (i : Int) < (m : Int) := by omega
        have l2 : (kk i : Int) < (n : Int) := by omega
        clear hsd hf
        go_wp2_with fail
        refine HS.out.mono ?_
        rintro e w' ⟨rfl, hw⟩; rw [hw]; clear hw w'
        go_wp2_with fail
        have HT : Hid (∀ q, Trk w.heap.size l (fun _ => 0) (fun _ => 0) (fun _ => 0) (seatF f kk ap lt i) (wr.drewN q)) := fun q => by
          have := HI.out.1
          exact this.carry (fun b o _ h => h)
        go_region_with (go_at_call 35; refine (seat_any (f i) (kk i) (ap i) (lt i) _ (HT.out 1) HFn.out (by rw [hln]; exact hKn) (by rw [hln]; exact hn)).mono ?_; rintro e w2 ⟨rfl, htr, hfr⟩)
        all_goals
          have fr2 : Fr w.heap.size wr w2 := ⟨⟨hfr.below.os, hfr.below.tape, hfr.below.output, hfr.below.size, hfr.below.block⟩, hfr.plain⟩
          have HS2 := (show Hid _ from HI.out.seated HF.out htr fr2)
          obtain ⟨⟨x0, f0⟩, ⟨x1, f1⟩, ⟨x2, f2⟩⟩ := (HI.out.2.1.fr fr2).facts hKn
          have k3' : ∀ x, (w2.setCell ⟨w1.heap.size, kk i, none⟩ x).cell? ⟨bl, i, none⟩ = some (.bool (lt i)) := fun x => by
            have hb2 : Below w.heap.size wr (w2.setCell ⟨w1.heap.size, kk i, none⟩ x) := fr2.below.setCell hX x
            exact (hb2.cell (p := ⟨bl, i, none⟩) llt).trans k3
          have k4' : ∀ x, (w2.setCell ⟨w1.heap.size, kk i, none⟩ x).cell? ⟨ba, i, none⟩ = some (.bool (ap i)) := fun x => by
            have hb2 : Below w.heap.size wr (w2.setCell ⟨w1.heap.size, kk i, none⟩ x) := fr2.below.setCell hX x
            exact (hb2.cell (p := ⟨ba, i, none⟩) alt).trans k4
          have y1 : ∀ x, (w2.setCell ⟨w1.heap.size, kk i, none⟩ x).cell? ⟨w1.heap.size + 1, kk i, none⟩ = some (.int .i64 (cA f kk ap i (kk i))) := fun x => by
            rw [World.cell?_of_block (w := w2) (Below.heap_setCell _ _ _ _ (by simp))]; exact x1
          have y2 : ∀ x, (w2.setCell ⟨w1.heap.size, kk i, none⟩ x).cell? ⟨w1.heap.size + 1 + 1, kk i, none⟩ = some (.int .i64 (cN f kk lt ap i (kk i))) := fun x => by
            rw [World.cell?_of_block (w := w2) (Below.heap_setCell _ _ _ _ (by simp; omega))]; exact x2
          have z1 : ∀ x, (w2.setCell ⟨w1.heap.size, kk i, none⟩ x).frozen? ⟨w1.heap.size + 1, kk i, none⟩ = false := fun x => by
            rw [World.frozen?_of_block (w := w2) (Below.heap_setCell _ _ _ _ (by simp))]; exact f1
          have z2 : ∀ x, (w2.setCell ⟨w1.heap.size, kk i, none⟩ x).frozen? ⟨w1.heap.size + 1 + 1, kk i, none⟩ = false := fun x => by
            rw [World.frozen?_of_block (w := w2) (Below.heap_setCell _ _ _ _ (by simp; omega))]; exact f2
          obtain ⟨d0, d0'⟩ := cnt_bd (fun j => fsB f j && decide (kk j = kk i)) i
          obtain ⟨d1, d1'⟩ := cnt_bd (fun j => fsB f j && decide (kk j = kk i) && ap j) i
          obtain ⟨d2, d2'⟩ := cnt_bd (fun j => fsB f j && decide (kk j = kk i) && (!ap j && lt j)) i
          change 0 ≤ cC f kk i (kk i) at d0
          change cC f kk i (kk i) ≤ i at d0'
          change 0 ≤ cA f kk ap i (kk i) at d1
          change cA f kk ap i (kk i) ≤ i at d1'
          change 0 ≤ cN f kk lt ap i (kk i) at d2
          change cN f kk lt ap i (kk i) ≤ i at d2'
          clear htr hfr fr2 x1 x2 f1 f2 k1 k2 k3 k4
          cases ha : ap i with
          | true =>
            have HN := (show Hid _ from BInv.seatAp hX HS2.out HF.out ha)
            rw [ha] at k4'
            clear ha
            go_wp2
            go_roundw
            case rel => exact ⟨i + 1, by omega, by go_num, HN.out⟩
            case measure => simp [intOf]; omega
          | false =>
            rw [ha] at k4'
            cases hl : lt i with
            | true =>
              have HN := (show Hid _ from BInv.seatLate hX HS2.out HF.out ha hl)
              rw [hl] at k3'
              clear ha hl
              go_wp2
              go_roundw
              case rel => exact ⟨i + 1, by omega, by go_num, HN.out⟩
              case measure => simp [intOf]; omega
            | false =>
              have HN := (show Hid _ from BInv.seatBare hX HS2.out HF.out ha hl)
              rw [hl] at k3'
              clear ha hl
              go_wp2
              go_roundw
              case rel => exact ⟨i + 1, by omega, by go_num, HN.out⟩
              case measure => simp [intOf]; omega
    · obtain rfl : i = m := by omega
      have HR : Hid (Rows3 w1.heap.size n (cC f kk i) (cA f kk ap i) (cN f kk lt ap i) wr) := hinv.2.1
      have HBw : Hid (Below w.heap.size w wr) := hinv.2.2.1
      have HT0 : Hid (Trk w.heap.size l (upTo 0 (cC f kk i)) (upTo 0 (cA f kk ap i)) (upTo 0 (cN f kk lt ap i)) (seatF f kk ap lt i) wr) := hinv.1.congrN (by simp [upTo]) (by simp [upTo]) (by simp [upTo])
      clear hinv HI SV ST SL SA HG HK H0 HB hlt hi
      obtain ⟨wa, hwa⟩ : ∃ wa : World, wa = wr := ⟨_, rfl⟩
      rw [← hwa] at HR HBw HT0 ⊢
      clear hwa
      go_wp2
      go_loopw [18] (fun j wr => ∃ (k : Nat), k ≤ n ∧ j = .int .i64 k ∧ Trk w.heap.size l (upTo k (cC f kk i)) (upTo k (cA f kk ap i)) (upTo k (cN f kk lt ap i)) (seatF f kk ap lt i) wr ∧ Rows3 w1.heap.size n (cC f kk i) (cA f kk ap i) (cN f kk lt ap i) wr ∧ Below w.heap.size w wr) (fun j _ => n - (intOf j).toNat)
      case atStart => exact ⟨0, Nat.zero_le _, rfl, HT0.out, HR.out, HBw.out⟩
      case round =>
        obtain ⟨k, hk, rfl, hT, hR, hB⟩ := hrel
        have HT : Hid (Trk w.heap.size l (upTo k (cC f kk i)) (upTo k (cA f kk ap i)) (upTo k (cN f kk lt ap i)) (seatF f kk ap lt i) wr) := hT
        have HR2 : Hid (Rows3 w1.heap.size n (cC f kk i) (cA f kk ap i) (cN f kk lt ap i) wr) := hR
        have HB2 : Hid (Below w.heap.size w wr) := hB
        by_cases hlt : k < n
        · obtain ⟨⟨x0, f0⟩, ⟨x1, f1⟩, ⟨x2, f2⟩⟩ := hR.facts hlt
          have l1 : (k : Int) < (n : Int) := by omega
          have HTd : Hid (Trk w.heap.size l (upTo k (cC f kk i)) (upTo k (cA f kk ap i)) (upTo k (cN f kk lt ap i)) (seatF f kk ap lt i) (wr.drewN 1)) := hT.carry (fun b o _ h => h)
          clear hT hR hB f0 f1 f2
          go_wp2
          go_region_with (go_at_call 36; refine (setTally_any k (cC f kk i k) (cA f kk ap i k) (cN f kk lt ap i k) _ HTd.out (by rw [hln]; exact hlt) (by rw [hln]; exact hn)).mono ?_; rintro e w2 ⟨rfl, htr, hfr⟩)
          all_goals
            have fr2 : Fr w.heap.size wr w2 := ⟨⟨hfr.below.os, hfr.below.tape, hfr.below.output, hfr.below.size, hfr.below.block⟩, hfr.plain⟩
            have HN : Hid (Trk w.heap.size l (upTo (k + 1) (cC f kk i)) (upTo (k + 1) (cA f kk ap i)) (upTo (k + 1) (cN f kk lt ap i)) (seatF f kk ap lt i) w2) := htr.congrN (fun j _ => upTo_step k _ j) (fun j _ => upTo_step k _ j) (fun j _ => upTo_step k _ j)
            have HR3 := (show Hid _ from HR2.out.fr fr2)
            have HB3 := (show Hid _ from HB2.out.trans fr2.below)
            clear htr hfr fr2
            go_wp2
            go_roundw
            case rel => exact ⟨k + 1, by omega, by go_num, HN.out, HR3.out, HB3.out⟩
            case measure => simp [intOf]; omega
        · obtain rfl : k = n := by omega
          clear hT hR hB
          go_wp2
          go_ret
          refine ⟨l, rfl, hln, ?_, HB2.out⟩
          rw [← hln] at HT
          exact HT.out.congrN (fun j hj => by simp [upTo, hj]) (fun j hj => by simp [upTo, hj]) (fun j hj => by simp [upTo, hj])

end Go.Proofs.Qxb6000476aMods
