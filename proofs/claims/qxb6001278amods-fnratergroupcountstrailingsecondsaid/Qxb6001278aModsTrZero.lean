import Derived.Test.Qxb6001278aModsTrWalk
namespace Go.Proofs.Qxb6001278aMods
open Go.RowKit
set_option linter.unusedVariables false

set_option maxHeartbeats 1000000 in
set_option maxRecDepth 100000 in
theorem tr_zero (a1 a2 : Option Addr) (m1 m2 c1 c2 : Nat) (sec grp : Nat → Int) (w : World) (h1 : m1 ≤ 131072) (h2 : m2 ≤ 131072) (h12 : m1 + m2 ≤ 131072) (hn : min m1 m2 = 0)
    (s1 : ArgSl w a1 m1 c1 (fun i => .int .u64 (sec i))) (s2 : ArgSl w a2 m2 c2 (fun i => .int .i64 (grp i))) :
    Calls Trym.prog 3 #[.slice a1 m1 c1, .slice a2 m2 c2] w fun e w' => e = .returned (.bool true) ∧ Below w.heap.size w w' := by
  have S1 : Hid (ArgSl w a1 m1 c1 (fun i => .int .u64 (sec i))) := s1
  have S2 : Hid (ArgSl w a2 m2 c2 (fun i => .int .i64 (grp i))) := s2
  have HNN : Hid (min m1 m2 = 0) := hn
  clear s1 s2 hn
  go_enter Trym.func3, Trym.ntmps3
  go_wp2_with fail
  refine (bytes5_any _ _ _ _ _ _ _).mono ?_
  rintro e w' ⟨⟨x, rfl⟩, hw⟩; rw [hw]; clear hw w'
  cases x with
  | false =>
    go_wp2
    go_ret
    exact ⟨rfl, Below.refl _ _⟩
  | true =>
    go_wp2_with fail
    refine (clone6_sl a1 m1 c1 sec w (by omega) S1.out).mono ?_
    rintro e w1 ⟨ao1, b1, q1, rfl, t1, bb1⟩
    have T1 : Hid (Below w.heap.size w w1) := bb1
    clear t1 bb1 S1
    go_wp2_with fail
    refine (clone7_sl a2 m2 c2 grp w1 (by omega) (ArgSl.below S2.out T1.out)).mono ?_
    rintro e w2 ⟨ao2, b2, q2, rfl, t2, bb2⟩
    have HBw : Hid (Below w.heap.size w w2) := T1.out.trans (bb2.mono T1.out.size)
    clear t2 bb2 S2 T1
    go_upto_if 45 with fail
    go_cut [5] (fun x wx => x = .int .i64 0 ∧ wx = w2)
    case first =>
      by_cases hlen : m2 < m1
      · obtain rfl : m2 = 0 := by have := HNN.out; omega
        go_wp2
        go_meet
        exact ⟨rfl, rfl⟩
      · obtain rfl : m1 = 0 := by have := HNN.out; omega
        go_wp2
        go_meet
        exact ⟨rfl, rfl⟩
    case rest =>
      obtain ⟨rfl, hwc⟩ := hcut
      have hwc' := hwc.symm
      subst hwc'
      clear HNN
      go_wp2_with fail
      refine (newRater_any 0 w2).mono ?_
      rintro e w3 ⟨cs1, rfl, hw, x1, x2⟩
      have HR0 : Hid (∃ v, Rat (w2.heap.size + 1) w2.heap.size 0 [] v w3) := by
        refine ⟨.slice none 0 0, ?_⟩
        rw [hw]
        exact rat_new x1 x2
      have HB3 : Hid (Below w2.heap.size w2 w3) := by
        rw [hw]; exact (Below.refl _ _).alloc (Nat.le_refl _) _
      clear hw x1 x2
      go_wp2
      refine wp_loop_rounds 1 ?_; rw [rounds_succ]
      go_wp2_with fail
      refine (splitAt_any _ HR0.out).mono ?_
      rintro e w4 ⟨rfl, hw⟩; rw [hw]; clear hw w4
      go_wp2_with fail
      refine (splitLen_any _ HR0.out).mono ?_
      rintro e w4 ⟨rfl, hw⟩; rw [hw]; clear hw w4
      go_wp2
      go_ret
      exact ⟨rfl, HBw.out.trans (HB3.out.mono HBw.out.size)⟩

theorem tr_all (a1 a2 : Option Addr) (m1 m2 c1 c2 : Nat) (sec grp : Nat → Int) (w : World)
    (s1 : ArgSl w a1 m1 c1 (fun i => .int .u64 (sec i))) (s2 : ArgSl w a2 m2 c2 (fun i => .int .i64 (grp i))) :
    Calls Trym.prog 3 #[.slice a1 m1 c1, .slice a2 m2 c2] w fun e w' => e = .returned (.bool true) ∧ Below w.heap.size w w' := by
  by_cases hl : 131072 < m1 ∨ 131072 < m2 ∨ 131072 < m1 + m2
  · exact tr_long a1 a2 m1 m2 c1 c2 w hl
  by_cases h0 : min m1 m2 = 0
  · exact tr_zero a1 a2 m1 m2 c1 c2 sec grp w (by omega) (by omega) (by omega) h0 s1 s2
  · exact tr_main a1 a2 m1 m2 c1 c2 (min m1 m2) sec grp w (by omega) (by omega) (by omega) rfl (by omega) s1 s2

end Go.Proofs.Qxb6001278aMods
