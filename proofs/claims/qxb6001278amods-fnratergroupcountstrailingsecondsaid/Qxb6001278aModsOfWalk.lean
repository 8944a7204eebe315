import Derived.Test.Qxb6001278aModsOps
import Derived.Test.Qxb6001278aModsClone
import Derived.Deep.RegionWith
namespace Go.Proofs.Qxb6001278aMods
open Go.RowKit
set_option linter.unusedVariables false

theorem of_long (s : Int) (a : Option Addr) (len cap : Nat) (w : World) (h : 131072 < len) :
    Calls Trym.prog 4 #[.int .u64 s, .slice a len cap] w fun e w' => e = .returned (.bool true) ∧ Below w.heap.size w w' := by
  by_cases h2 : len ≤ 1048576
  · go_enter Trym.func4, Trym.ntmps4
    go_wp2_with (go_at_call 15; refine (bytes15_yes _ _ _ _ _ h2).mono ?_; rintro e w' ⟨rfl, rfl⟩)
    go_ret
    exact ⟨rfl, Below.refl _ _⟩
  · go_enter Trym.func4, Trym.ntmps4
    go_wp2_with (go_at_call 15; refine (bytes15_no _ _ _ _ _ (by omega)).mono ?_; rintro e w' ⟨rfl, rfl⟩)
    go_ret
    exact ⟨rfl, Below.refl _ _⟩

/-- A new rater. -/
theorem rat_new {B : Nat} {s : Int} {w : World} {cs : Array Value} (h25 : cs[25]? = some (.slice none 0 0)) (h26 : cs[26]? = some (.int .u64 s)) : Rat B w.heap.size s [] (.slice none 0 0) (w.alloc (.cells cs 44)) :=
  ⟨⟨cs, heap_alloc_new _ _, h25, h26⟩, World.ownsRow_nil _ _ _ _⟩

theorem Rat.alloc {B R : Nat} {at_ : Int} {L : List (Int × Int)} {v : Value} {w : World} (h : Rat B R at_ L v w) (o : Obj) : Rat B R at_ L v (w.alloc o) := by
  obtain ⟨⟨cs, h1, h2, h3⟩, own⟩ := h
  exact ⟨⟨cs, by rw [Below.heap_alloc _ _ _ (blk_lt h1)]; exact h1, h2, h3⟩, own.alloc o⟩
theorem Rat.drewN {B R : Nat} {at_ : Int} {L : List (Int × Int)} {v : Value} {w : World} (h : Rat B R at_ L v w) (q : Nat) : Rat B R at_ L v (w.drewN q) := by
  obtain ⟨⟨cs, h1, h2, h3⟩, own⟩ := h
  exact ⟨⟨cs, h1, h2, h3⟩, own⟩
theorem Rat.base {B B' R : Nat} {at_ : Int} {w : World} (h : Rat B R at_ [] (.slice none 0 0) w) : Rat B' R at_ [] (.slice none 0 0) w := ⟨h.blk, World.ownsRow_nil _ _ _ _⟩

theorem stepL_same (s : Int) (h : Nat → Int) (k : Nat) : stepL s s (lst h k) (h k) = lst h (k + 1) := by
  unfold stepL
  rw [if_pos rfl, lst_succ]

def fnd (G : List (Int × Int)) (g : Int) (k : Nat) : Bool := (G.take k).any fun y => y.1 == g

theorem fnd_succ {G : List (Int × Int)} {g : Int} {k : Nat} {y : Int × Int} (hy : G[k]? = some y) : fnd G g (k + 1) = (fnd G g k || y.1 == g) := by
  have hk : k < G.length := (List.getElem?_eq_some_iff.1 hy).1
  unfold fnd
  rw [List.take_succ_eq_append_getElem hk, List.any_append]
  have : G[k] = y := by rw [List.getElem?_eq_getElem hk] at hy; exact Option.some.inj hy
  simp [this]

theorem fnd_false {G : List (Int × Int)} {g : Int} {k : Nat} (h : ∀ j y, j < k → G[j]? = some y → y.1 ≠ g) : fnd G g k = false := by
  unfold fnd
  rw [List.any_eq_false]
  intro y hy
  obtain ⟨j, hj⟩ := List.getElem?_of_mem hy
  rw [List.getElem?_take] at hj
  split at hj
  · simpa using h j y (by assumption) hj
  · cases hj

theorem fnd_true {G : List (Int × Int)} {g : Int} {j : Nat} {y : Int × Int} (hy : G[j]? = some y) (e : y.1 = g) : fnd G g G.length = true := by
  unfold fnd
  rw [List.take_length, List.any_eq_true]
  exact ⟨y, List.mem_of_getElem? hy, by simp [e]⟩

theorem sum_take (F : List (Int × Int)) (i : Nat) (x : Int × Int) (h : F[i]? = some x) : sumP (F.take (i + 1)) = sumP (F.take i) + x.2 := by
  induction F generalizing i with
  | nil => simp at h
  | cons y r ih =>
    cases i with
    | zero => simp at h; subst h; simp [sumP]
    | succ i =>
      have := ih i (by simpa using h)
      simp only [List.take_succ_cons, sumP, this]
      omega

theorem sum_take_bd (F : List (Int × Int)) (hF : ∀ x ∈ F, 1 ≤ x.2) : ∀ i, 0 ≤ sumP (F.take i) ∧ sumP (F.take i) ≤ sumP F := by
  induction F with
  | nil => intro i; simp [sumP]
  | cons y r ih =>
    intro i
    have hy := hF y (by simp)
    have ih' := ih (fun x hx => hF x (by simp [hx]))
    cases i with
    | zero =>
      have := (ih' r.length).1
      rw [List.take_length] at this
      simp only [List.take_zero, sumP]
      omega
    | succ i =>
      have := ih' i
      simp only [List.take_succ_cons, sumP]
      omega

theorem below_drewN {B : Nat} {a w : World} (h : Below B a w) {q : Nat} : Below B a (w.drewN q) := ⟨h.os, h.tape, h.output, h.size, h.block⟩

set_option maxHeartbeats 4000000 in
set_option maxRecDepth 100000 in
theorem of_main (s : Int) (a : Option Addr) (m cap : Nat) (h : Nat → Int) (w : World) (hm : m ≤ 131072) (s1 : ArgSl w a m cap (fun i => .int .i64 (h i))) :
    Calls Trym.prog 4 #[.int .u64 s, .slice a m cap] w fun e w' => e = .returned (.bool true) ∧ Below w.heap.size w w' := by
  have S1 : Hid (ArgSl w a m cap (fun i => .int .i64 (h i))) := s1
  clear s1
  go_enter Trym.func4, Trym.ntmps4
  go_wp2_with fail
  refine (bytes15_yes _ _ _ _ _ (by omega)).mono ?_
  rintro e w' ⟨rfl, hw⟩; rw [hw]; clear hw w'
  go_wp2_with fail
  refine (clone7_sl a m cap h w (by omega) S1.out).mono ?_
  rintro e w1 ⟨ao, b, q1, rfl, t1, b1⟩
  have T1 : Hid (SlA w1 ao b m (fun i => .int .i64 (h i))) := t1
  have HB1 : Hid (Below w.heap.size w w1) := b1
  clear t1 b1 S1
  go_wp2_with fail
  refine (newRater_any s w1).mono ?_
  rintro e w' ⟨cs1, rfl, hw, x1, x2⟩; rw [hw]; clear hw w'
  have X1 : Hid (cs1[25]? = some (.slice none 0 0) ∧ cs1[26]? = some (.int .u64 s)) := ⟨x1, x2⟩
  clear x1 x2
  go_wp2_with fail
  refine (newRater_any s _).mono ?_
  rintro e w2 ⟨cs2, rfl, hw, y1, y2⟩
  have hR2 : (w1.alloc (.cells cs1 44)).heap.size = w1.heap.size + 1 := by simp
  rw [hR2]
  have HF0 : Hid (∃ v, Rat (w1.heap.size + 2) w1.heap.size s (lst h 0) v w2) := ⟨_, by rw [hw]; exact (rat_new X1.out.1 X1.out.2).alloc _⟩
  have HG0 : Hid (Rat (w1.heap.size + 2) (w1.heap.size + 1) s [] (.slice none 0 0) w2) := by
    rw [hw, ← hR2]; exact rat_new y1 y2
  have HS2 : Hid (w2.heap.size = w1.heap.size + 2) := by show w2.heap.size = w1.heap.size + 2; rw [hw]; simp
  have HB2 : Hid (Below w1.heap.size w1 w2) := by
    rw [hw]; exact ((Below.refl _ _).alloc (Nat.le_refl _) _).alloc (by simp) _
  clear hw y1 y2 X1 hR2
  go_wp2
  go_loopw [7] (fun i wr => ∃ (k : Nat), k ≤ m ∧ i = .int .i64 k ∧ (∃ v, Rat (w1.heap.size + 2) w1.heap.size s (lst h k) v wr) ∧ KB (w1.heap.size + 2) w1.heap.size w2 wr) (fun i _ => m - (intOf i).toNat)
  case atStart => exact ⟨0, Nat.zero_le _, rfl, HF0.out, KB.refl _ _ _⟩
  case round =>
    obtain ⟨k, hk, rfl, hF, hK⟩ := hrel
    have HF : Hid (∃ v, Rat (w1.heap.size + 2) w1.heap.size s (lst h k) v wr) := hF
    have HK : Hid (KB (w1.heap.size + 2) w1.heap.size w2 wr) := hK
    by_cases hlt : k < m
    · obtain ⟨rfl, slt, sc⟩ := T1.out (by omega)
      have k1 : wr.cell? ⟨b, k, none⟩ = some (.int .i64 (h k)) := by
        rw [hK.cell (p := ⟨b, k, none⟩) (by simp only; omega) (by simp only; omega), HB2.out.cell (p := ⟨b, k, none⟩) slt]
        exact sc k hlt
      have hsz : w1.heap.size + 2 ≤ wr.heap.size := by have := hK.size; rw [HS2.out] at this; exact this
      clear hF hK sc
      go_wp2_with fail
      refine (zzgroup_any (w1.heap.size + 2) w1.heap.size s s (h k) (lst h k) wr (by omega) hsz (by have := lst_len h k; omega) (fun x hx => by have := lst_bd h k x hx; omega) HF.out).mono ?_
      rintro e w3 ⟨rfl, hg⟩
      rw [stepL_same] at hg
      have HG : Hid (GPost (w1.heap.size + 2) w1.heap.size s (lst h (k + 1)) wr w3) := hg
      clear hg
      go_wp2
      go_roundw
      case rel => exact ⟨k + 1, by omega, by go_num, HG.out.1, HK.out.trans HG.out.2⟩
      case measure => simp [intOf]; omega
    · obtain rfl : k = m := by omega
      clear hF hK hlt hk HF0
      obtain ⟨wf, hwf⟩ : ∃ wf : World, wf = wr := ⟨_, rfl⟩
      rw [← hwf] at HF HK ⊢
      clear hwf
      obtain ⟨v1, hv1⟩ := HF.out
      have HF1 : Hid (Rat (w1.heap.size + 2) w1.heap.size s (lst h k) v1 wf) := hv1
      have hszf : w1.heap.size + 2 ≤ wf.heap.size := by have := HK.out.size; rw [HS2.out] at this; exact this
      have HG1 : Hid (∃ v, Rat wf.heap.size (w1.heap.size + 1) s (lst (revf h k) (k - k)) v wf) := by
        rw [Nat.sub_self]
        exact ⟨_, ((HG0.out.aside HK.out (by omega) (by omega) (by intro g hg; cases hg) (by intro g hg; cases hg)).base)⟩
      clear hv1 HF HG0
      go_wp2
      go_loopw [8] (fun i wr => ∃ (t : Nat), t ≤ k ∧ i = .int .i64 ((t : Int) - 1) ∧ (∃ v, Rat wf.heap.size (w1.heap.size + 1) s (lst (revf h k) (k - t)) v wr) ∧ KB wf.heap.size (w1.heap.size + 1) wf wr) (fun i _ => (intOf i + 1).toNat)
      case atStart => exact ⟨k, Nat.le_refl _, rfl, HG1.out, KB.refl _ _ _⟩
      case round =>
        obtain ⟨t, ht, rfl, hG, hK2⟩ := hrel
        have HG : Hid (∃ v, Rat wf.heap.size (w1.heap.size + 1) s (lst (revf h k) (k - t)) v wr) := hG
        have HK2 : Hid (KB wf.heap.size (w1.heap.size + 1) wf wr) := hK2
        cases t with
        | succ t =>
          obtain ⟨rfl, slt, sc⟩ := T1.out (by omega)
          have k1 : wr.cell? ⟨b, t, none⟩ = some (.int .i64 (h t)) := by
            rw [hK2.cell (p := ⟨b, t, none⟩) (by simp only; omega) (by simp only; omega), HK.out.cell (p := ⟨b, t, none⟩) (by simp only; omega) (by simp only; omega), HB2.out.cell (p := ⟨b, t, none⟩) slt]
            exact sc t (by omega)
          have hsz : wf.heap.size ≤ wr.heap.size := hK2.size
          have e1 : ((t + 1 : Nat) : Int) - 1 = (t : Int) := by omega
          have HX : Hid (stepL s s (lst (revf h k) (k - (t + 1))) (h t) = lst (revf h k) (k - t)) := by
            have e2 : k - t = (k - (t + 1)) + 1 := by omega
            have e3 : h t = revf h k (k - (t + 1)) := by
              unfold revf
              congr 1; omega
            show _ = _
            rw [e2, e3, stepL_same]
          rw [e1]
          clear hG hK2 sc e1
          go_wp2_with fail
          refine (zzgroup_any wf.heap.size (w1.heap.size + 1) s s (h t) (lst (revf h k) (k - (t + 1))) wr (by omega) hsz (by have := lst_len (revf h k) (k - (t + 1)); omega) (fun x hx => by have := lst_bd (revf h k) (k - (t + 1)) x hx; omega) HG.out).mono ?_
          rintro e w3 ⟨rfl, hg⟩
          rw [HX.out] at hg
          have HGP : Hid (GPost wf.heap.size (w1.heap.size + 1) s (lst (revf h k) (k - t)) wr w3) := hg
          clear hg
          go_wp2
          go_roundw
          case rel => exact ⟨t, by omega, by go_num, HGP.out.1, HK2.out.trans HGP.out.2⟩
          case measure => simp [intOf]
        | zero =>
          clear hG hK2 ht HG1
          rw [Nat.sub_zero] at HG
          obtain ⟨wb, hwb⟩ : ∃ wb : World, wb = wr := ⟨_, rfl⟩
          rw [← hwb] at HG HK2 ⊢
          clear hwb
          have HF : Hid (∃ v, Rat (w1.heap.size + 2) w1.heap.size s (lst h k) v wb) := ⟨_, HF1.out.aside HK2.out (by omega) (by omega) (fun g hg => (HF1.out.own.lt g hg).2) (fun g hg => by have := (HF1.out.own.lt g hg).1; omega)⟩
          have HBw : Hid (Below w.heap.size w wb) := by
            have h1 := HB1.out
            have h2 := (HB2.out).mono (B' := w.heap.size) h1.size
            have h3 := HK.out.below (B' := w.heap.size) (by have := h1.size; omega) h1.size
            have h4 := HK2.out.below (B' := w.heap.size) (by have := h1.size; omega) (by have := h1.size; omega)
            exact ((h1.trans h2).trans h3).trans h4
          clear HF1 HK HK2 HB1 HB2 T1 HS2
          have e0 : (((0 : Nat) : Int) - 1) = -1 := rfl
          rw [e0]
          clear e0
          have HFL : Hid (∀ (i : Nat), i < (lst h k).length → ∃ x, (lst h k)[i]? = some x) := fun i hi => ⟨_, List.getElem?_eq_getElem hi⟩
          obtain ⟨F, hFd⟩ : ∃ F, F = lst h k := ⟨_, rfl⟩
          obtain ⟨G, hGd⟩ : ∃ G, G = lst (revf h k) k := ⟨_, rfl⟩
          have P1 : Hid (∀ (i : Nat) (x : Int × Int), F[i]? = some x → 1 ≤ x.2 ∧ x.2 ≤ k) := by
            intro i x hx; rw [hFd] at hx; exact lst_bd h k x (List.mem_of_getElem? hx)
          have P2 : Hid (∀ (i j : Nat) (x y : Int × Int), F[i]? = some x → F[j]? = some y → x.1 = y.1 → i = j) := by
            intro i j x y hx hy; rw [hFd] at hx hy; exact lst_keys h k i j x y hx hy
          have P3 : Hid (∀ (i j : Nat) (x y : Int × Int), G[i]? = some x → G[j]? = some y → x.1 = y.1 → i = j) := by
            intro i j x y hx hy; rw [hGd] at hx hy; exact lst_keys (revf h k) k i j x y hx hy
          have P4 : Hid (∀ (i j : Nat) (x y : Int × Int), F[i]? = some x → G[j]? = some y → y.1 = x.1 → y.2 = x.2) := by
            intro i j x y hx hy; rw [hFd] at hx; rw [hGd] at hy; exact count_rev h k x y (List.mem_of_getElem? hx) (List.mem_of_getElem? hy)
          have P5 : Hid (∀ (i : Nat) (x : Int × Int), F[i]? = some x → ∃ (j : Nat) (y : Int × Int), G[j]? = some y ∧ y.1 = x.1) := by
            intro i x hx; rw [hFd] at hx; rw [hGd]; exact found_rev h k x (List.mem_of_getElem? hx)
          have P6 : Hid (sumP F = k) := by rw [hFd]; exact lst_sum h k
          have P7 : Hid (∀ i, 0 ≤ sumP (F.take i) ∧ sumP (F.take i) ≤ k) := by
            intro i
            have := sum_take_bd F (fun x hx => by rw [hFd] at hx; exact (lst_bd h k x hx).1) i
            rw [P6.out] at this
            exact this
          have hlen : G.length = F.length := by rw [hFd, hGd]; exact len_rev h k
          have hFk : F.length ≤ k := by rw [hFd]; exact lst_len h k
          rw [← hFd] at HF HFL
          rw [← hGd] at HG
          clear hFd hGd
          obtain ⟨n, hn⟩ : ∃ n, n = F.length := ⟨_, rfl⟩
          have HN : Hid (F.length = n ∧ G.length = n) := ⟨hn.symm, hlen.trans hn.symm⟩
          rw [← hn] at hFk
          clear hlen hn
          go_wp2_with fail
          refine (splitLen_any wb HF.out).mono ?_
          rintro e w' ⟨rfl, hw⟩; rw [hw, HN.out.1]; clear hw w'
          go_wp2_with fail
          refine (splitLen_any wb HG.out).mono ?_
          rintro e w' ⟨rfl, hw⟩; rw [hw, HN.out.2]; clear hw w'
          go_wp2
          go_loopw [10, 11] (fun tot i wr => ∃ (t q : Nat), t ≤ n ∧ i = .int .i64 t ∧ tot = .int .u64 (sumP (F.take t)) ∧ wr = wb.drewN q) (fun _ i _ => n - (intOf i).toNat)
          case atStart => exact ⟨0, 0, Nat.zero_le _, rfl, by simp [sumP], rfl⟩
          case round =>
            obtain ⟨t, q, ht, rfl, rfl, rfl⟩ := hrel
            obtain ⟨z0, z1⟩ := P7.out t
            by_cases hlt : t < n
            · obtain ⟨x, hx⟩ := HFL.out t (by rw [HN.out.1]; exact hlt)
              obtain ⟨g, p⟩ := x
              have HX : Hid (F[t]? = some (g, p)) := hx
              obtain ⟨p1, p2⟩ := P1.out t _ hx
              simp only at p1 p2
              have hp0 : (p == 0) = false := beq_eq_false_iff_ne.2 (by omega)
              have HST : Hid (sumP (F.take (t + 1)) = sumP (F.take t) + p) := sum_take F t (g, p) hx
              obtain ⟨z2, z3⟩ := P7.out (t + 1)
              rw [HST.out] at z2 z3
              clear hx
              go_wp2_with fail
              refine (splitEntry_any t (g, p) _ (HF.out.imp fun v hv => hv.drewN q) (by rw [HN.out.1]; omega) HX.out).mono ?_
              rintro e w3 ⟨rfl, qd, rfl⟩
              rw [World.drewN_drewN]
              go_wp2
              go_loopw [14] (fun kk wr => ∃ (j q : Nat), j ≤ t ∧ kk = .int .i64 j ∧ wr = wb.drewN q) (fun kk _ => t - (intOf kk).toNat)
              case atStart => exact ⟨0, _, Nat.zero_le _, rfl, rfl⟩
              case round =>
                obtain ⟨j, q2, hj, rfl, rfl⟩ := hrel
                by_cases hjt : j < t
                · obtain ⟨y, hy⟩ := HFL.out j (by rw [HN.out.1]; omega)
                  obtain ⟨g', p'⟩ := y
                  have HY : Hid (F[j]? = some (g', p')) := hy
                  have hne : (g' == g) = false := beq_eq_false_iff_ne.2 (fun e => by
                    have := P2.out j t _ _ HY.out HX.out e
                    omega)
                  clear hy
                  go_wp2_with fail
                  refine (splitEntry_any j (g', p') _ (HF.out.imp fun v hv => hv.drewN q2) (by rw [HN.out.1]; omega) HY.out).mono ?_
                  rintro e w3 ⟨rfl, qd2, rfl⟩
                  rw [World.drewN_drewN]
                  go_wp2
                  go_roundw
                  case rel => exact ⟨j + 1, _, by omega, by go_num, rfl⟩
                  case measure => simp [intOf]; omega
                · go_wp2
                  clear hj hjt
                  go_loopw [17, 18] (fun fd kk wr => ∃ (j q : Nat), j ≤ n ∧ kk = .int .i64 j ∧ fd = .bool (fnd G g j) ∧ wr = wb.drewN q) (fun _ kk _ => n - (intOf kk).toNat)
                  case atStart => exact ⟨0, _, Nat.zero_le _, rfl, by simp [fnd], rfl⟩
                  case round =>
                    obtain ⟨i, q3, hi, rfl, rfl, rfl⟩ := hrel
                    by_cases hin : i < n
                    · obtain ⟨y, hy⟩ : ∃ y, G[i]? = some y := ⟨_, List.getElem?_eq_getElem (by rw [HN.out.2]; exact hin)⟩
                      obtain ⟨g', p'⟩ := y
                      have HY : Hid (G[i]? = some (g', p')) := hy
                      have HS := (show Hid _ from fnd_succ (g := g) hy)
                      clear hy
                      by_cases he : g' = g
                      · subst he
                        obtain rfl : p' = p := P4.out t i _ _ HX.out HY.out rfl
                        have hff : fnd G g' i = false := fnd_false (fun j' y' hj' hy' e => by
                          have := P3.out j' i _ _ hy' HY.out e
                          omega)
                        have HT : Hid (fnd G g' (i + 1) = true) := by
                          show _ = _
                          rw [HS.out]; simp
                        rw [hff]
                        clear hff HS
                        go_wp2_with fail
                        refine (splitEntry_any i (g', p') _ (HG.out.imp fun v hv => hv.drewN q3) (by rw [HN.out.2]; omega) HY.out).mono ?_
                        rintro e w3 ⟨rfl, qd2, rfl⟩
                        rw [World.drewN_drewN]
                        go_wp2
                        go_roundw
                        case rel => exact ⟨i + 1, _, by omega, by go_num, by rw [HT.out], rfl⟩
                        case measure => simp [intOf]; omega
                      · have he' : (g' == g) = false := beq_eq_false_iff_ne.2 he
                        have HT : Hid (fnd G g (i + 1) = fnd G g i) := by
                          show _ = _
                          rw [HS.out, he']; simp
                        obtain ⟨fb, hfb⟩ : ∃ fb, fb = fnd G g i := ⟨_, rfl⟩
                        rw [← hfb] at HT ⊢
                        clear HS he hfb
                        go_wp2_with fail
                        refine (splitEntry_any i (g', p') _ (HG.out.imp fun v hv => hv.drewN q3) (by rw [HN.out.2]; omega) HY.out).mono ?_
                        rintro e w3 ⟨rfl, qd2, rfl⟩
                        rw [World.drewN_drewN]
                        go_wp2
                        go_roundw
                        case rel => exact ⟨i + 1, _, by omega, by go_num, by rw [HT.out], rfl⟩
                        case measure => simp [intOf]; omega
                    · obtain rfl : i = n := by omega
                      have hft : fnd G g i = true := by
                        obtain ⟨j', y', hy', e⟩ := P5.out t _ HX.out
                        have := fnd_true hy' e
                        rw [HN.out.2] at this
                        exact this
                      rw [hft]
                      clear hft
                      go_wp2
                      go_roundw
                      case rel => exact ⟨t + 1, _, by omega, by go_num, by rw [HST.out], rfl⟩
                      case measure => simp [intOf]; omega
            · obtain rfl : t = n := by omega
              have hst : sumP (F.take t) = k := by
                have h1 := HN.out.1
                rw [← h1, List.take_length, P6.out]
              rw [hst]
              clear hst z0 z1
              go_wp2_with fail
              refine (splitAt_any _ (HF.out.imp fun v hv => hv.drewN q)).mono ?_
              rintro e w3 ⟨rfl, hw⟩; rw [hw]; clear hw w3
              go_wp2_with fail
              refine (splitAt_any _ (HG.out.imp fun v hv => hv.drewN q)).mono ?_
              rintro e w3 ⟨rfl, hw⟩; rw [hw]; clear hw w3
              go_wp2
              go_ret
              exact ⟨by simp, below_drewN HBw.out⟩

end Go.Proofs.Qxb6001278aMods
