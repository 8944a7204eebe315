import Derived.Test.Qxb6001278aModsSmall
import Derived.Test.Qxb6001278aModsOfWalk
import Derived.Deep.DeepCutAuto
namespace Go.Proofs.Qxb6001278aMods
open Go.RowKit
set_option linter.unusedVariables false

set_option maxRecDepth 100000 in
theorem tr_long (a1 a2 : Option Addr) (m1 m2 c1 c2 : Nat) (w : World) (h : 131072 < m1 ∨ 131072 < m2 ∨ 131072 < m1 + m2) :
    Calls Trym.prog 3 #[.slice a1 m1 c1, .slice a2 m2 c2] w fun e w' => e = .returned (.bool true) ∧ Below w.heap.size w w' := by
  go_enter Trym.func3, Trym.ntmps3
  go_wp2_with fail
  refine (bytes5_any _ _ _ _ _ _ _).mono ?_
  rintro e w' ⟨⟨x, rfl⟩, hw⟩; rw [hw]; clear hw w'
  cases x with
  | false =>
    go_wp2
    go_ret
    exact ⟨rfl, Below.refl _ _⟩
  | true =>
    by_cases h1 : 131072 < m1
    · go_wp2
      go_ret
      exact ⟨rfl, Below.refl _ _⟩
    by_cases h2 : 131072 < m2
    · go_wp2
      go_ret
      exact ⟨rfl, Below.refl _ _⟩
    have h3 : 131072 < m1 + m2 := by omega
    clear h
    go_wp2
    go_ret
    exact ⟨rfl, Below.refl _ _⟩

theorem kb_undraw {B R q : Nat} {w w' : World} (h : KB B R (w.drewN q) w') : KB B R w w' := ⟨h.os, h.tape, h.output, h.size, h.block⟩

set_option maxHeartbeats 4000000 in
set_option maxRecDepth 100000 in
theorem tr_main (a1 a2 : Option Addr) (m1 m2 c1 c2 n : Nat) (sec grp : Nat → Int) (w : World) (h1 : m1 ≤ 131072) (h2 : m2 ≤ 131072) (h12 : m1 + m2 ≤ 131072) (hn : n = min m1 m2) (hn0 : 0 < n)
    (s1 : ArgSl w a1 m1 c1 (fun i => .int .u64 (sec i))) (s2 : ArgSl w a2 m2 c2 (fun i => .int .i64 (grp i))) :
    Calls Trym.prog 3 #[.slice a1 m1 c1, .slice a2 m2 c2] w fun e w' => e = .returned (.bool true) ∧ Below w.heap.size w w' := by
  have S1 : Hid (ArgSl w a1 m1 c1 (fun i => .int .u64 (sec i))) := s1
  have S2 : Hid (ArgSl w a2 m2 c2 (fun i => .int .i64 (grp i))) := s2
  have hn1 : n ≤ m1 := by omega
  have hn2 : n ≤ m2 := by omega
  have HNN : Hid (n = min m1 m2) := hn
  clear s1 s2 hn
  go_enter Trym.func3, Trym.ntmps3
  go_wp2_with fail
  refine (bytes5_any _ _ _ _ _ _ _).mono ?_
  rintro e w' ⟨⟨x, rfl⟩, hw⟩; rw [hw]; clear hw w'
  cases x with
  | false =>
    go_wp2
    go_ret
    exact ⟨rfl, Below.refl _ _⟩
  | true =>
    go_wp2_with fail
    refine (clone6_sl a1 m1 c1 sec w (by omega) S1.out).mono ?_
    rintro e w1 ⟨ao1, b1, q1, rfl, t1, bb1⟩
    have T1 : Hid (SlA w1 ao1 b1 m1 (fun i => .int .u64 (sec i)) ∧ Below w.heap.size w w1) := ⟨t1, bb1⟩
    clear t1 bb1 S1
    go_wp2_with fail
    refine (clone7_sl a2 m2 c2 grp w1 (by omega) (ArgSl.below S2.out T1.out.2)).mono ?_
    rintro e w2 ⟨ao2, b2, q2, rfl, t2, bb2⟩
    have T2 : Hid (SlA w2 ao1 b1 m1 (fun i => .int .u64 (sec i)) ∧ SlA w2 ao2 b2 m2 (fun i => .int .i64 (grp i)) ∧ Below w.heap.size w w2) := ⟨T1.out.1.below bb2, t2, T1.out.2.trans (bb2.mono T1.out.2.size)⟩
    clear t2 bb2 S2 T1
    obtain ⟨hao1, lt1, ce1⟩ := T2.out.1 (by omega)
    obtain ⟨hao2, lt2, ce2⟩ := T2.out.2.1 (by omega)
    subst hao1
    subst hao2
    have C1 : Hid (∀ j, j < m1 → w2.cell? ⟨b1, j, none⟩ = some (.int .u64 (sec j))) := ce1
    have C2 : Hid (∀ j, j < m2 → w2.cell? ⟨b2, j, none⟩ = some (.int .i64 (grp j))) := ce2
    have HBw : Hid (Below w.heap.size w w2) := T2.out.2.2
    clear T2 ce1 ce2
    have D1 : Hid (∀ j, j < n → w2.cell? ⟨b1, j, none⟩ = some (.int .u64 (sec j))) := fun j hj => C1.out j (by omega)
    have D2 : Hid (∀ j, j < n → w2.cell? ⟨b2, j, none⟩ = some (.int .i64 (grp j))) := fun j hj => C2.out j (by omega)
    clear C1
    go_upto_if 45 with fail
    go_cut [5] (fun x wx => x = .int .i64 (n : Nat) ∧ wx = w2)
    case first =>
      by_cases hlen : m2 < m1
      · have hq : n = m2 := by have := HNN.out; omega
        subst hq
        go_wp2
        go_meet
        exact ⟨rfl, rfl⟩
      · have hq : n = m1 := by have := HNN.out; omega
        subst hq
        go_wp2
        go_meet
        exact ⟨rfl, rfl⟩
    case rest =>
      obtain ⟨rfl, hwc⟩ := hcut
      have hwc' := hwc.symm
      subst hwc'
      clear HNN
      go_wp2_with fail
      refine (newRater_any 0 w2).mono ?_
      rintro e w3 ⟨cs1, rfl, hw, x1, x2⟩
      have HR0 : Hid (∃ v, Rat (w2.heap.size + 1) w2.heap.size (atOf sec 0) (runL sec grp 0) v w3) := by
        refine ⟨.slice none 0 0, ?_⟩
        have e1 : runL sec grp 0 = [] := by simp [runL, lst, firsts, stt]
        rw [hw, e1]
        exact rat_new x1 x2
      have HS3 : Hid (w3.heap.size = w2.heap.size + 1) := by
        show w3.heap.size = w2.heap.size + 1
        rw [hw]; simp
      have HB3 : Hid (Below w2.heap.size w2 w3) := by
        rw [hw]; exact (Below.refl _ _).alloc (Nat.le_refl _) _
      clear hw x1 x2
      go_wp2
      go_loopw [7] (fun i wr => ∃ (k : Nat), k ≤ n ∧ i = .int .i64 k ∧ (∃ v, Rat (w2.heap.size + 1) w2.heap.size (atOf sec k) (runL sec grp k) v wr) ∧ KB (w2.heap.size + 1) w2.heap.size w3 wr) (fun i _ => n - (intOf i).toNat)
      case atStart => exact ⟨0, Nat.zero_le _, rfl, HR0.out, KB.refl _ _ _⟩
      case round =>
        obtain ⟨k, hk, rfl, hF, hK⟩ := hrel
        have HF : Hid (∃ v, Rat (w2.heap.size + 1) w2.heap.size (atOf sec k) (runL sec grp k) v wr) := hF
        have HK : Hid (KB (w2.heap.size + 1) w2.heap.size w3 wr) := hK
        by_cases hlt : k < n
        · have k1 : wr.cell? ⟨b1, k, none⟩ = some (.int .u64 (sec k)) := by
            rw [hK.cell (p := ⟨b1, k, none⟩) (by simp only; omega) (by simp only; omega), HB3.out.cell (p := ⟨b1, k, none⟩) lt1]
            exact D1.out k hlt
          have k2 : wr.cell? ⟨b2, k, none⟩ = some (.int .i64 (grp k)) := by
            rw [hK.cell (p := ⟨b2, k, none⟩) (by simp only; omega) (by simp only; omega), HB3.out.cell (p := ⟨b2, k, none⟩) lt2]
            exact D2.out k hlt
          have hsz : w2.heap.size + 1 ≤ wr.heap.size := by have := hK.size; rw [HS3.out] at this; exact this
          have l1 := Int.ofNat_lt.2 (Nat.lt_of_lt_of_le hlt hn1)
          have l2 := Int.ofNat_lt.2 (Nat.lt_of_lt_of_le hlt hn2)
          clear hF hK
          go_wp2
          go_region_with (go_at_call 9; refine (zzgroup_any (w2.heap.size + 1) w2.heap.size (atOf sec k) (sec k) (grp k) (runL sec grp k) (wr.drewN 1) (by omega) hsz (by have := runL_len sec grp k; omega) (fun x hx => by have := runL_bd sec grp k x hx; omega) (HF.out.imp fun v hv => hv.drewN 1)).mono ?_; rintro e w4 ⟨rfl, hg⟩)
          all_goals
            rw [run_step] at hg
            have HG : Hid (GPost (w2.heap.size + 1) w2.heap.size (sec k) (runL sec grp (k + 1)) (wr.drewN 1) w4) := hg
            clear hg
            go_wp2
            go_roundw
            case rel => exact ⟨k + 1, by omega, by go_num, by
              have e : atOf sec (k + 1) = sec k := by simp [atOf]
              rw [e]; exact HG.out.1, HK.out.trans (kb_undraw HG.out.2)⟩
            case measure => simp [intOf]; omega
        · have hkn : k = n := by omega
          rw [hkn] at HF
          clear hF hK HR0 hkn
          obtain ⟨wf, hwf⟩ : ∃ wf : World, wf = wr := ⟨_, rfl⟩
          rw [← hwf] at HF HK ⊢
          clear hwf
          have hat : atOf sec n = sec (n - 1) := by
            have : ¬ n = 0 := by omega
            simp [atOf, this]
          rw [hat] at HF
          clear hat
          have E1 : Hid (∀ j, j < n → wf.cell? ⟨b1, j, none⟩ = some (.int .u64 (sec j))) := fun j hj => by
            rw [HK.out.cell (p := ⟨b1, j, none⟩) (by simp only; omega) (by simp only; omega), HB3.out.cell (p := ⟨b1, j, none⟩) lt1]
            exact D1.out j hj
          have E2 : Hid (∀ j, j < m2 → wf.cell? ⟨b2, j, none⟩ = some (.int .i64 (grp j))) := fun j hj => by
            rw [HK.out.cell (p := ⟨b2, j, none⟩) (by simp only; omega) (by simp only; omega), HB3.out.cell (p := ⟨b2, j, none⟩) lt2]
            exact C2.out j hj
          have HBf : Hid (Below w.heap.size w wf) := by
            have h1 := HBw.out
            have h2 := HB3.out.mono (B' := w.heap.size) h1.size
            have h3 := HK.out.below (B' := w.heap.size) (by have := h1.size; omega) h1.size
            exact (h1.trans h2).trans h3
          clear HBw HB3 HK C2 D1 D2 HS3
          obtain ⟨st, hst⟩ : ∃ st, st = stt sec n := ⟨_, rfl⟩
          have hstn : st < n := by rw [hst]; exact stt_lt sec n hn0
          have HRun : Hid (∀ j, st ≤ j → j < n → sec j = sec (n - 1)) := by
            intro j h1 h2; rw [hst] at h1; exact stt_run sec n j h1 h2
          have HEdge : Hid (0 < st → sec (st - 1) ≠ sec (n - 1)) := by
            intro h1; rw [hst] at h1 ⊢; exact stt_edge sec n h1
          have hrl : runL sec grp n = lst (shf grp st) (n - st) := by rw [hst]; rfl
          rw [hrl] at HF
          clear hst hrl
          obtain ⟨n', hn'⟩ : ∃ n', n = n' + 1 := ⟨n - 1, by omega⟩
          have hlast := E1.out n' (by omega)
          have e1 : n - 1 = n' := by omega
          rw [e1] at HRun HEdge HF
          obtain ⟨la, hla⟩ : ∃ la, la = sec n' := ⟨_, rfl⟩
          rw [← hla] at HRun HEdge HF hlast
          clear hla e1
          have hnn : (n : Int) - 1 = (n' : Int) := by omega
          have HE' : Hid (n = n' + 1) := hn'
          clear hn'
          go_wp2
          go_loop [9] (fun i => ∃ c : Nat, st ≤ c ∧ c < n ∧ i = .int .i64 c) (fun i => (intOf i).toNat)
          case atStart => exact ⟨n', by have := HE'.out; omega, by have := HE'.out; omega, rfl⟩
          case round =>
            obtain ⟨c, hc1, hc2, rfl⟩ := hrel
            by_cases hcs : st < c
            · obtain ⟨c', rfl⟩ : ∃ c', c = c' + 1 := ⟨c - 1, by omega⟩
              have hcell := E1.out c' (by omega)
              rw [HRun.out c' (by omega) (by omega)] at hcell
              have hcp : (0 : Int) < ((c' + 1 : Nat) : Int) := by omega
              have e2 : ((c' + 1 : Nat) : Int) - 1 = (c' : Int) := by omega
              have l3 : (c' : Int) < (n : Int) := by omega
              go_wp2
              go_round
              case rel => exact ⟨c', by omega, by omega, by go_num⟩
              case measure => simp [intOf]
            · have hcst : c = st := by omega
              rw [hcst]
              clear hcst hc1 hc2 hcs
              clear c
              have HL := (show Hid _ from splitLen_any wf HF.out)
              have HAt := (show Hid _ from splitAt_any wf HF.out)
              have ways : (st = 0) ∨ ∃ c', st = c' + 1 ∧ sec c' ≠ la := by
                by_cases h0 : st = 0
                · exact .inl h0
                · refine .inr ⟨st - 1, by omega, HEdge.out (by omega)⟩
              obtain ⟨K, hK⟩ : ∃ K, K = n - st := ⟨_, rfl⟩
              have HKn : Hid (n = st + K) := by
                show n = st + K
                omega
              rw [← hK] at HF HL
              have hKp : 0 < K := by omega
              have hKb : K ≤ 131072 := by have := HKn.out; omega
              clear hK
              have GO : Hid (∀ t, t < K → fsB (shf grp st) t = true → (lst (shf grp st) K)[(firsts (shf grp st) t).length]? = some (grp (st + t), cntv (shf grp st) K (grp (st + t)))) := fun t ht hf => entry_at (shf grp st) K t ht hf
              have HLL : Hid ((lst (shf grp st) K).length = (firsts (shf grp st) K).length) := lst_length _ _
              have HLB : Hid ((lst (shf grp st) K).length ≤ K) := lst_len _ _
              have way2 : ((st : Int) ≤ 0) ∨ ∃ c' : Nat, (0 : Int) < st ∧ (st : Int) - 1 = (c' : Int) ∧ (sec c' == la) = false ∧ (c' : Int) < n ∧ wf.cell? ⟨b1, c', none⟩ = some (.int .u64 (sec c')) := by
                rcases ways with h0 | ⟨c', hc', hne⟩
                · exact .inl (by omega)
                · exact .inr ⟨c', by omega, by omega, beq_eq_false_iff_ne.2 hne, by omega, E1.out c' (by omega)⟩
              clear ways HRun HEdge E1 HE' hlast
              rcases way2 with h0 | ⟨c', hc1, hc2, hc3, hc4, hc5⟩
              all_goals
                go_wp2_with fail
                refine Calls.mono HAt.out ?_
                rintro e w4 ⟨rfl, hw⟩; rw [hw]; clear hw w4
                go_wp2
                try clear h0
                try clear hc1 hc2 hc3 hc4 hc5
                try clear c'
                go_loopw [10, 11] (fun e j wr => ∃ (t q : Nat), t ≤ K ∧ j = .int .i64 ((st + t : Nat) : Int) ∧ e = .int .i64 ((firsts (shf grp st) t).length : Nat) ∧ wr = wf.drewN q) (fun _ j _ => st + K - (intOf j).toNat)
                case atStart => exact ⟨0, 0, Nat.zero_le _, rfl, rfl, rfl⟩
                case round =>
                  obtain ⟨t, q, ht, rfl, rfl, rfl⟩ := hrel
                  by_cases hlt : t < K
                  · have hseen := seen_any b2 m2 q2 st t grp (wf.drewN q) (by omega) (by have := HKn.out; omega) E2.out
                    have hcnt := fun q' => countIn_any b2 m2 q2 st K grp (grp (st + t)) (wf.drewN q') (by omega) (by have := HKn.out; omega) E2.out
                    have hcj := E2.out (st + t) (by have := HKn.out; omega)
                    have hent := GO.out t hlt
                    have hfl := firsts_len (shf grp st) t
                    obtain ⟨j, hj⟩ : ∃ j, j = st + t := ⟨_, rfl⟩
                    rw [← hj] at hseen hcj hent ⊢
                    rw [← hj, ← HKn.out] at hcnt
                    have HJ : Hid (j = st + t) := hj
                    have hjn : j < n := by have := HKn.out; omega
                    have hjm := Int.ofNat_lt.2 (Nat.lt_of_lt_of_le hjn hn2)
                    have HC := (show Hid _ from hcnt)
                    have HE := (show Hid _ from hent)
                    clear hcnt hent hj
                    cases hf : fsB (shf grp st) t with
                    | false =>
                      have HFm := (show Hid _ from firsts_miss (shf grp st) t hf)
                      rw [hf] at hseen
                      have HSe2 := (show Hid _ from hseen)
                      clear hseen hf HE HC
                      go_wp2_with fail
                      refine Calls.mono HSe2.out ?_
                      rintro e w5 ⟨rfl, qd, rfl⟩
                      rw [World.drewN_drewN]
                      go_wp2
                      go_roundw
                      case rel => exact ⟨t + 1, _, by omega, by have := HJ.out; go_num, by rw [HFm.out], rfl⟩
                      case measure => have := HJ.out; simp [intOf]; omega
                    | true =>
                      have HFh := (show Hid _ from firsts_hit (shf grp st) t hf)
                      rw [hf] at hseen
                      have HSe2 := (show Hid _ from hseen)
                      have HE2 := (show Hid _ from HE.out hf)
                      clear hseen hf HE
                      have hlen2 : (firsts (shf grp st) t).length < (lst (shf grp st) K).length := (List.getElem?_eq_some_iff.1 HE2.out).1
                      obtain ⟨ee, hee⟩ : ∃ ee, ee = (firsts (shf grp st) t).length := ⟨_, rfl⟩
                      rw [← hee] at HFh HE2 hlen2 hfl ⊢
                      clear hee
                      obtain ⟨LL, hLL⟩ : ∃ LL, LL = (lst (shf grp st) K).length := ⟨_, rfl⟩
                      have HLL2 : Hid ((lst (shf grp st) K).length = LL) := hLL.symm
                      have hLK : LL ≤ K := by rw [hLL]; exact HLB.out
                      rw [← hLL] at hlen2
                      clear hLL
                      go_wp2_with fail
                      refine Calls.mono HSe2.out ?_
                      rintro e w5 ⟨rfl, qd, rfl⟩
                      rw [World.drewN_drewN]
                      go_wp2_with fail
                      refine (splitLen_any _ (HF.out.imp fun v hv => hv.drewN (q + qd))).mono ?_
                      rintro e w5 ⟨rfl, hw⟩; rw [hw, HLL2.out]; clear hw w5
                      go_wp2_with fail
                      refine (splitEntry_any ee _ _ (HF.out.imp fun v hv => hv.drewN (q + qd)) (by rw [HLL2.out]; have := HKn.out; omega) HE2.out).mono ?_
                      rintro e w5 ⟨rfl, qe, rfl⟩
                      rw [World.drewN_drewN]
                      go_wp2_with fail
                      refine (HC.out _).mono ?_
                      rintro e w5 ⟨rfl, hw⟩; rw [hw]; clear hw w5
                      go_wp2
                      go_roundw
                      case rel => exact ⟨t + 1, _, by omega, by have := HJ.out; go_num, by rw [HFh.out]; go_num, rfl⟩
                      case measure => have := HJ.out; simp [intOf]; omega
                  · obtain rfl : t = K := by omega
                    have hjn : ((st + t : Nat) : Int) = (n : Int) := by have := HKn.out; omega
                    rw [hjn, ← HLL.out]
                    clear hjn
                    go_wp2_with fail
                    refine (splitLen_any _ (HF.out.imp fun v hv => hv.drewN q)).mono ?_
                    rintro e w5 ⟨rfl, hw⟩; rw [hw]; clear hw w5
                    go_wp2
                    go_ret
                    exact ⟨by simp, below_drewN HBf.out⟩

end Go.Proofs.Qxb6001278aMods
