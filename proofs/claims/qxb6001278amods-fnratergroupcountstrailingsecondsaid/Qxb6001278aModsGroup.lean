import Derived.Test.Qxb6001278aModsRows
import Derived.Test.Qxb6001278aModsMem
import Derived.ProofKit
import Derived.Outline
namespace Go.Proofs.Qxb6001278aMods
open Go.RowKit
set_option linter.unusedVariables false

theorem Trym.info46 : (Trym.prog.info? 46).map (fun i => (i.zero, i.size, i.bytes)) = some (some (.agg #[.int .i64 0, .int .u64 0]), 2, 16) := by kernel_rfl

theorem two_at (wr : World) (x y : Value) (e : TypeId) : ∀ (j : Nat) u, [x, y][j]? = some u → (wr.alloc (.cells #[x, y] e)).cell? ((⟨wr.heap.size, 0, none⟩ : Addr).add j) = some u := by
  intro j u hj
  match j, hj with
  | 0, hj => simp at hj; subst hj; simp [Addr.add]
  | 1, hj => simp at hj; subst hj; simp [Addr.add]
theorem two_one (a b : Int) : ∀ u ∈ [Value.int .i64 a, Value.int .u64 b], u.oneCell' = true := by
  intro u hu; simp at hu; rcases hu with rfl | rfl <;> rfl
theorem sz1 (wr : World) (o : Obj) (B : Nat) (h : B ≤ wr.heap.size) : B ≤ (wr.alloc o).heap.size := by
  simp; omega
theorem own_some {w : World} {B : Nat} {e : TypeId} {s : Nat} {v : Value} {k : Nat} {xs : List Value} (h : w.ownsRow B e s v (k + 1) xs) : ∃ g cap, v = .slice (some ⟨g, 0, none⟩) (k + 1) cap := by
  rcases h.2 with ⟨_, h⟩ | ⟨g, cap, _, h, _⟩
  · omega
  · exact ⟨g, cap, h⟩

/-- What group leaves: the rater with L', all else below B as it was. -/
def GPost (B R : Nat) (at_ : Int) (L : List (Int × Int)) (w w' : World) : Prop := (∃ v, Rat B R at_ L v w') ∧ KB B R w w'

set_option maxHeartbeats 1000000 in
set_option maxRecDepth 100000 in
theorem group_nil (B R : Nat) (at_ g : Int) (w : World) (hR : R < B) (hB : B ≤ w.heap.size) (h : Rat B R at_ [] (.slice none 0 0) w) :
    Calls Trym.prog 16 #[.pointer (some ⟨R, 0, none⟩), .int .u64 at_, .int .i64 g] w fun e w' => e = .returned (.tuple #[]) ∧ GPost B R at_ [(g, 1)] w w' := by
  obtain ⟨i0, hi, hz0, hz1, hz2⟩ := info_parts Trym.info46
  obtain ⟨c25, c26, f25, f26, hRlt⟩ := h.facts
  have HR := (show Hid _ from h)
  have HO : Hid (w.ownsRow B 46 2 (.slice none 0 0) 0 []) := World.ownsRow_nil _ _ _ _
  clear h
  go_enter Trym.func16, Trym.ntmps16
  go_wp2
  refine wp_loop_rounds 1 ?_; rw [rounds_succ]
  go_wp2_with (at_builtin; refine wpList_append_own _ rfl (.tmp 59) (.tmp 62) 42 rfl B 46 i0 (.agg #[.int .i64 0, .int .u64 0]) 2 16 Trym.underlying42 hi hz0 hz1 hz2 rfl (by decide) (.slice none 0 0) 0 [] rfl (HO.out.alloc _) ⟨w.heap.size, 0, none⟩ 1 1 [.int .i64 g, .int .u64 1] rfl rfl ?c1 ?c2 ?c3 ?c4 ?c5 ?_)
  case c1 => exact two_at _ _ _ _
  case c2 => exact two_one _ _
  case c3 => unfold maxLen; omega
  case c4 => omega
  case c5 => exact sz1 _ _ _ hB
  intro v' w1 hown' hgrow _
  obtain ⟨g1, cap', hv'⟩ := own_some hown'
  rw [hv'] at hown' ⊢
  have hap := rat_append (L := []) hR hB HR.out hown' hgrow
  obtain ⟨hend, k1, k2, k3⟩ := hap
  have HE := (show Hid _ from hend)
  clear hown' hgrow hend hv'
  go_wp2
  first | go_end0 | refine bodyPost_ret (results_none rfl _ _ _) rfl ?_
  exact ⟨rfl, ⟨_, HE.out.1⟩, HE.out.2⟩

set_option maxHeartbeats 1000000 in
set_option maxRecDepth 100000 in
theorem group_row (B R g0 cap : Nat) (at_ g : Int) (L : List (Int × Int)) (w : World) (hR : R < B) (hB : B ≤ w.heap.size) (hL : L.length ≤ 131072) (hp : ∀ x ∈ L, 1 ≤ x.2 ∧ x.2 ≤ 1000000)
    (h : Rat B R at_ L (.slice (some ⟨g0, 0, none⟩) L.length cap) w) :
    Calls Trym.prog 16 #[.pointer (some ⟨R, 0, none⟩), .int .u64 at_, .int .i64 g] w fun e w' => e = .returned (.tuple #[]) ∧ GPost B R at_ (bump L g) w w' := by
  obtain ⟨i0, hi, hz0, hz1, hz2⟩ := info_parts Trym.info46
  obtain ⟨c25, c26, f25, f26, hRlt⟩ := h.facts
  have HR := (show Hid _ from h)
  have HP : Hid (∀ x ∈ L, 1 ≤ x.2 ∧ x.2 ≤ 1000000) := hp
  have hfz : ∀ j, w.frozen? ⟨g0, j, none⟩ = false := fun j => h.own.frozenAt j
  have HC : Hid (∀ i x, L[i]? = some x → w.cell? ⟨g0, i * 2, none⟩ = some (.int .i64 x.1) ∧ w.cell? ⟨g0, i * 2 + 1, none⟩ = some (.int .u64 x.2)) := by
    intro i x hx
    have hil : i < L.length := (List.getElem?_eq_some_iff.1 hx).1
    rw [h.own.cellAt (i * 2) (by omega), h.own.cellAt (i * 2 + 1) (by omega)]
    exact ⟨flat_get0 L i x hx, flat_get1 L i x hx⟩
  have HO := (show Hid _ from h.own)
  obtain ⟨n, hn⟩ : ∃ n, n = L.length := ⟨_, rfl⟩
  rw [← hn] at c25 hL
  have HN : Hid (n = L.length) := hn
  clear h hp hn
  go_enter Trym.func16, Trym.ntmps16
  go_wp2
  go_loop [30] (fun i => ∃ k : Nat, k ≤ n ∧ i = .int .i64 k ∧ ∀ j x, j < k → L[j]? = some x → x.1 ≠ g) (fun i => n - (intOf i).toNat)
  case atStart => exact ⟨0, Nat.zero_le _, rfl, by intro j x hj; omega⟩
  case round =>
    obtain ⟨k, hk, rfl, hall⟩ := hrel
    have HA : Hid (∀ j x, j < k → L[j]? = some x → x.1 ≠ g) := hall
    clear hall
    by_cases hlt : k < n
    · obtain ⟨x, hx⟩ : ∃ x, L[k]? = some x := by
        have : k < L.length := by rw [← HN.out]; exact hlt
        exact ⟨_, List.getElem?_eq_getElem this⟩
      obtain ⟨x1, x2⟩ := x
      obtain ⟨d1, d2⟩ := HC.out k _ hx
      have hb := HP.out _ (List.mem_of_getElem? hx)
      simp only at d1 d2 hb
      obtain ⟨hb1, hb2⟩ := hb
      by_cases he : x1 = g
      · subst he
        have HX : Hid (L[k]? = some (x1, x2)) := hx
        have hrr := rat_raise hR HR.out HX.out
        have HE := (show Hid _ from hrr)
        have HQ : Hid (bump L x1 = L.set k (x1, x2 + 1)) := bump_at L x1 x2 k hx HA.out
        clear hx hrr
        go_wp2
        first | go_end0 | refine bodyPost_ret (results_none rfl _ _ _) rfl ?_
        refine ⟨rfl, ?_⟩
        rw [HQ.out]
        exact ⟨⟨_, HE.out.1⟩, HE.out.2⟩
      · have he' : (x1 == g) = false := beq_eq_false_iff_ne.2 he
        have HX : Hid (L[k]? = some (x1, x2) ∧ ¬ x1 = g) := ⟨hx, he⟩
        clear hx he
        go_wp2
        go_round
        case rel => exact ⟨k + 1, by omega, by go_num, by
          intro j x hj hx
          by_cases e : j = k
          · subst e
            rw [HX.out.1] at hx
            cases hx
            exact HX.out.2
          · exact HA.out j x (by omega) hx⟩
        case measure => simp [intOf]; omega
    · have HQ : Hid (bump L g = L ++ [(g, 1)]) := bump_new L g (fun x hx => by
        obtain ⟨j, hj⟩ := List.getElem?_of_mem hx
        have hjl : j < L.length := (List.getElem?_eq_some_iff.1 hj).1
        have hnn := HN.out
        exact HA.out j x (by omega) hj)
      have HO2 : Hid (w.ownsRow B 46 2 (.slice (some ⟨g0, 0, none⟩) n cap) n (flat L)) := by
        have := HO.out
        rw [← HN.out] at this
        exact this
      go_wp2_with (at_builtin; refine wpList_append_own _ rfl (.tmp 59) (.tmp 62) 42 rfl B 46 i0 (.agg #[.int .i64 0, .int .u64 0]) 2 16 Trym.underlying42 hi hz0 hz1 hz2 rfl (by decide) (.slice (some ⟨g0, 0, none⟩) n cap) n (flat L) rfl (HO2.out.alloc _) ⟨w.heap.size, 0, none⟩ 1 1 [.int .i64 g, .int .u64 1] rfl rfl ?c1 ?c2 ?c3 ?c4 ?c5 ?_)
      case c2 => first | exact two_one _ _ | exact ⟨rfl, rfl⟩
      case c3 => unfold maxLen; omega
      case c4 => omega
      case c5 => first | exact sz1 _ _ _ hB | omega
      intro v' w1 hown' hgrow _
      obtain ⟨g1, cap', hv'⟩ := own_some hown'
      rw [hv'] at hown' ⊢
      have hown2 : w1.ownsRow B 46 2 (.slice (some ⟨g1, 0, none⟩) (n + 1) cap') (L.length + 1) (flat L ++ [.int .i64 g, .int .u64 1]) := by rw [← HN.out]; exact hown'
      have hap := rat_append hR hB HR.out hown2 hgrow
      rw [← HN.out] at hap
      obtain ⟨hend, k1, k2, k3⟩ := hap
      have HE := (show Hid _ from hend)
      clear hown' hown2 hgrow hend hv'
      go_wp2
      first | go_end0 | refine bodyPost_ret (results_none rfl _ _ _) rfl ?_
      refine ⟨rfl, ?_⟩
      rw [HQ.out]
      exact ⟨⟨_, HE.out.1⟩, HE.out.2⟩

theorem rat_reset {B R : Nat} {at_ s : Int} {L : List (Int × Int)} {v v0 : Value} {w : World} (hR : R < B) (h : Rat B R at_ L v w) (hv : w.ownsRow B 46 2 v0 0 []) :
    Rat B R s [] v0 ((w.setCell ⟨R, 25, none⟩ v0).setCell ⟨R, 26, none⟩ (.int .u64 s)) ∧ KB B R w ((w.setCell ⟨R, 25, none⟩ v0).setCell ⟨R, 26, none⟩ (.int .u64 s)) := by
  obtain ⟨⟨cs, h1, h2, h3⟩, own⟩ := h
  have h25 : 25 < cs.size := (Array.getElem?_eq_some_iff.1 h2).1
  have h26 : 26 < cs.size := (Array.getElem?_eq_some_iff.1 h3).1
  have b1 := heap_setCell_at w R 25 v0 cs 44 h1
  have b2 := heap_setCell_at _ R 26 (.int .u64 s) _ 44 b1
  refine ⟨⟨⟨_, b2, ?_, ?_⟩, ?_⟩, ?_⟩
  · rw [Array.getElem?_setIfInBounds, if_neg (by omega)]
    simp [h25]
  · simp [h26]
  · exact ownsRow_setCell_below (ownsRow_setCell_below hv hR _) hR _
  · exact ⟨rfl, rfl, rfl, by simp [World.setCell], fun k hk hne => by rw [Below.heap_setCell _ _ _ _ hne, Below.heap_setCell _ _ _ _ hne]⟩

theorem own_zero {w : World} {B g0 n cap : Nat} {xs : List Value} (h : w.ownsRow B 46 2 (.slice (some ⟨g0, 0, none⟩) n cap) n xs) : w.ownsRow B 46 2 (.slice (some ⟨g0, 0, none⟩) 0 cap) 0 [] := by
  refine ⟨by simp, .inr ?_⟩
  rcases h.2 with ⟨h', _⟩ | ⟨g', cap', cur, h', hb, hg, hnc, hcm, hcs, htake⟩
  · simp at h'
  · simp only [Value.slice.injEq, Option.some.injEq, Addr.mk.injEq, and_true, true_and] at h'
    obtain ⟨rfl, rfl⟩ := h'
    exact ⟨g0, cap, cur, rfl, hb, hg, Nat.zero_le _, hcm, hcs, by simp⟩

set_option maxHeartbeats 1000000 in
set_option maxRecDepth 100000 in
theorem reset_core (B R : Nat) (at_ s g : Int) (ao : Option Addr) (n cap : Nat) (v0 : Value) (w w1 : World) (hv0 : v0 = .slice ao 0 cap) (hR : R < B) (hB : B ≤ w.heap.size) (hne : at_ ≠ s) (hcap : (cap : Int) ≤ 9223372036854775807)
    (c25 : w.cell? ⟨R, 25, none⟩ = some (.slice ao n cap)) (c26 : w.cell? ⟨R, 26, none⟩ = some (.int .u64 at_)) (f25 : w.frozen? ⟨R, 25, none⟩ = false) (f26 : w.frozen? ⟨R, 26, none⟩ = false) (hRlt : R < w.heap.size)
    (hao : ao = none → cap = 0)
    (hw1 : (w.setCell ⟨R, 25, none⟩ (.slice ao 0 cap)).setCell ⟨R, 26, none⟩ (.int .u64 s) = w1)
    (hr1 : Rat B R s [] v0 w1) (hk1 : KB B R w w1) :
    Calls Trym.prog 16 #[.pointer (some ⟨R, 0, none⟩), .int .u64 s, .int .i64 g] w fun e w' => e = .returned (.tuple #[]) ∧ GPost B R s [(g, 1)] w w' := by
  obtain ⟨i0, hi, hz0, hz1, hz2⟩ := info_parts Trym.info46
  obtain ⟨k25, k26, q25, q26, kRlt⟩ := hr1.facts
  subst hv0
  have HR := (show Hid _ from hr1)
  have HK := (show Hid _ from hk1)
  have HB1 : Hid (B ≤ w1.heap.size) := Nat.le_trans hB hk1.size
  have hne' : (at_ != s) = true := by simpa using hne
  clear hr1 hk1 hne
  go_enter Trym.func16, Trym.ntmps16
  go_wp2
  clear hw1 c25 c26 f25 f26
  have HO : Hid (w1.ownsRow B 46 2 (.slice ao 0 cap) 0 []) := HR.out.own
  refine wp_loop_rounds 1 ?_; rw [rounds_succ]
  go_wp2_with (at_builtin; refine wpList_append_own _ rfl (.tmp 59) (.tmp 62) 42 rfl B 46 i0 (.agg #[.int .i64 0, .int .u64 0]) 2 16 Trym.underlying42 hi hz0 hz1 hz2 rfl (by decide) (.slice ao 0 cap) 0 [] rfl (HO.out.alloc _) ⟨w1.heap.size, 0, none⟩ 1 1 [.int .i64 g, .int .u64 1] rfl rfl ?c1 ?c2 ?c3 ?c4 ?c5 ?_)
  case c1 => exact two_at _ _ _ _
  case c2 => exact two_one _ _
  case c3 => unfold maxLen; omega
  case c4 => omega
  case c5 => exact sz1 _ _ _ HB1.out
  intro v' w2 hown' hgrow _
  obtain ⟨g1, cap', hv'⟩ := own_some hown'
  rw [hv'] at hown' ⊢
  have hap := rat_append (L := []) hR HB1.out HR.out hown' hgrow
  obtain ⟨hend, k1, k2, k3⟩ := hap
  have HE := (show Hid _ from hend)
  clear hown' hgrow hend hv' k25 k26 q25 q26
  go_wp2
  first | go_end0 | refine bodyPost_ret (results_none rfl _ _ _) rfl ?_
  exact ⟨rfl, ⟨_, HE.out.1⟩, HK.out.trans HE.out.2⟩

theorem group_reset (B R : Nat) (at_ s g : Int) (L : List (Int × Int)) (v : Value) (w : World) (hR : R < B) (hB : B ≤ w.heap.size) (hne : at_ ≠ s) (h : Rat B R at_ L v w) :
    Calls Trym.prog 16 #[.pointer (some ⟨R, 0, none⟩), .int .u64 s, .int .i64 g] w fun e w' => e = .returned (.tuple #[]) ∧ GPost B R s [(g, 1)] w w' := by
  obtain ⟨c25, c26, f25, f26, hRlt⟩ := h.facts
  rcases h.own.2 with ⟨rfl, hn⟩ | ⟨g0, cap, cur, rfl, hb, hg, hnc, hcm, hcs, htake⟩
  · have hr := rat_reset (s := s) (v0 := .slice none 0 0) hR h (World.ownsRow_nil _ _ _ _)
    exact reset_core B R at_ s g none 0 0 _ w _ rfl hR hB hne (by omega) c25 c26 f25 f26 hRlt (fun _ => rfl) rfl hr.1 hr.2
  · have hr := rat_reset (s := s) (v0 := .slice (some ⟨g0, 0, none⟩) 0 cap) hR h (own_zero h.own)
    unfold maxLen at hcm
    exact reset_core B R at_ s g (some ⟨g0, 0, none⟩) L.length cap _ w _ rfl hR hB hne (by omega) c25 c26 f25 f26 hRlt (fun e => by cases e) rfl hr.1 hr.2

/-- What a call in second s makes of the counts of second at_. -/
def stepL (at_ s : Int) (L : List (Int × Int)) (g : Int) : List (Int × Int) := bump (if at_ = s then L else []) g

/-- group, whole. -/
theorem group_any (B R : Nat) (at_ s g : Int) (L : List (Int × Int)) (w : World) (hR : R < B) (hB : B ≤ w.heap.size) (hL : L.length ≤ 131072) (hp : ∀ x ∈ L, 1 ≤ x.2 ∧ x.2 ≤ 1000000) (h : ∃ v, Rat B R at_ L v w) :
    Calls Trym.prog 16 #[.pointer (some ⟨R, 0, none⟩), .int .u64 s, .int .i64 g] w fun e w' => e = .returned (.tuple #[]) ∧ GPost B R s (stepL at_ s L g) w w' := by
  obtain ⟨v, h⟩ := h
  unfold stepL
  by_cases hs : at_ = s
  · subst hs
    rw [if_pos rfl]
    rcases h.own.2 with ⟨rfl, hn⟩ | ⟨g0, cap, cur, rfl, hb, hg, hnc, hcm, hcs, htake⟩
    · obtain rfl : L = [] := List.eq_nil_of_length_eq_zero hn
      exact group_nil B R at_ g w hR hB h
    · exact group_row B R g0 cap at_ g L w hR hB hL hp h
  · rw [if_neg hs]
    exact group_reset B R at_ s g L v w hR hB hs h

/-- ZZGroup. -/
theorem zzgroup_any (B R : Nat) (at_ s g : Int) (L : List (Int × Int)) (w : World) (hR : R < B) (hB : B ≤ w.heap.size) (hL : L.length ≤ 131072) (hp : ∀ x ∈ L, 1 ≤ x.2 ∧ x.2 ≤ 1000000) (h : ∃ v, Rat B R at_ L v w) :
    Calls Trym.prog 9 #[.pointer (some ⟨R, 0, none⟩), .int .u64 s, .int .i64 g] w fun e w' => e = .returned (.tuple #[]) ∧ GPost B R s (stepL at_ s L g) w w' := by
  have H := (show Hid _ from group_any B R at_ s g L w hR hB hL hp h)
  clear h hp
  go_enter Trym.func9, Trym.ntmps9
  go_wp2_with fail
  refine Calls.mono H.out ?_
  rintro e w1 ⟨rfl, hg⟩
  have HG : Hid (GPost B R s (stepL at_ s L g) w w1) := hg
  clear hg
  go_wp2
  first | go_end0 | refine bodyPost_ret (results_none rfl _ _ _) rfl ?_
  exact ⟨rfl, HG.out⟩

end Go.Proofs.Qxb6001278aMods
