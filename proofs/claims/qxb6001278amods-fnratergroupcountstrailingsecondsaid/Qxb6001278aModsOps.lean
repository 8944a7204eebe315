import Derived.Test.Qxb6001278aModsGroup
import Derived.Deep.QuietTactic
import Derived.BigQuiet
namespace Go.Proofs.Qxb6001278aMods
open Go.RowKit
set_option linter.unusedVariables false

def NewPost (s : Int) (w : World) (e : Ending) (w' : World) : Prop :=
  ∃ cs, e = .returned (.pointer (some ⟨w.heap.size, 0, none⟩)) ∧ w' = w.alloc (.cells cs 44) ∧ cs[25]? = some (.slice none 0 0) ∧ cs[26]? = some (.int .u64 s)

set_option maxRecDepth 100000 in
theorem newRater_any (s : Int) (w : World) : Calls Trym.prog 8 #[.int .u64 s, .slice none 0 0, .slice none 0 0] w fun e w' => NewPost s w e w' := by
  go_enter Trym.func8, Trym.ntmps8
  go_wp2
  refine wp_loop_rounds 1 ?_; rw [rounds_succ]
  go_wp2
  go_ret
  exact ⟨_, rfl, rfl, rfl, rfl⟩

theorem splitAt_any {B R : Nat} {at_ : Int} {L : List (Int × Int)} (w : World) (h : ∃ v, Rat B R at_ L v w) :
    Calls Trym.prog 10 #[.pointer (some ⟨R, 0, none⟩)] w fun e w' => e = .returned (.int .u64 at_) ∧ w' = w := by
  obtain ⟨v, h⟩ := h
  obtain ⟨c25, c26, f25, f26, hRlt⟩ := h.facts
  clear h
  go_enter Trym.func10, Trym.ntmps10
  go_wp2
  go_ret
  exact ⟨rfl, rfl⟩

theorem splitLen_any {B R : Nat} {at_ : Int} {L : List (Int × Int)} (w : World) (h : ∃ v, Rat B R at_ L v w) :
    Calls Trym.prog 11 #[.pointer (some ⟨R, 0, none⟩)] w fun e w' => e = .returned (.int .i64 L.length) ∧ w' = w := by
  obtain ⟨v, h⟩ := h
  obtain ⟨c25, c26, f25, f26, hRlt⟩ := h.facts
  rcases h.own.2 with ⟨rfl, hn⟩ | ⟨g0, cap, cur, rfl, hb, hg, hnc, hcm, hcs, htake⟩
  · rw [hn]
    clear h
    go_enter Trym.func11, Trym.ntmps11
    go_wp2
    go_ret
    exact ⟨rfl, rfl⟩
  · clear h hg htake hcs hcm
    obtain ⟨n, hn⟩ : ∃ n, n = L.length := ⟨_, rfl⟩
    rw [← hn] at c25 ⊢
    clear hn
    go_enter Trym.func11, Trym.ntmps11
    go_wp2
    go_ret
    exact ⟨rfl, rfl⟩

theorem splitEntry_any {B R : Nat} {at_ : Int} {L : List (Int × Int)} (i : Nat) (x : Int × Int) (w : World) (h : ∃ v, Rat B R at_ L v w) (hL : L.length ≤ 131072) (hi : L[i]? = some x) :
    Calls Trym.prog 13 #[.pointer (some ⟨R, 0, none⟩), .int .i64 i] w fun e w' => e = .returned (.tuple #[.int .i64 x.1, .int .u64 x.2]) ∧ ∃ q, w' = w.drewN q := by
  obtain ⟨v, h⟩ := h
  obtain ⟨c25, c26, f25, f26, hRlt⟩ := h.facts
  have hil : i < L.length := (List.getElem?_eq_some_iff.1 hi).1
  rcases h.own.2 with ⟨rfl, hn⟩ | ⟨g0, cap, cur, rfl, hb, hg, hnc, hcm, hcs, htake⟩
  · omega
  · have d0 : w.cell? ⟨g0, i * 2, none⟩ = some (.int .i64 x.1) := by
      rw [h.own.cellAt (i * 2) (by omega)]; exact flat_get0 L i x hi
    have d1 : w.cell? ⟨g0, i * 2 + 1, none⟩ = some (.int .u64 x.2) := by
      rw [h.own.cellAt (i * 2 + 1) (by omega)]; exact flat_get1 L i x hi
    clear h hg htake hcs hcm hi
    obtain ⟨x1, x2⟩ := x
    simp only at d0 d1 ⊢
    obtain ⟨n, hn⟩ : ∃ n, n = L.length := ⟨_, rfl⟩
    rw [← hn] at c25 hil hL
    clear hn hnc
    have l1 : (i : Int) < (n : Int) := by omega
    go_enter Trym.func13, Trym.ntmps13
    go_wp2
    go_quiet (fail)
    go_wp2
    go_ret2
    exact ⟨rfl, _, rfl⟩

theorem bytes15_yes (s : Int) (a : Option Addr) (len cap : Nat) (w : World) (h : len ≤ 1048576) :
    Calls Trym.prog 15 #[.int .u64 s, .slice a len cap] w fun e w' => e = .returned (.bool true) ∧ w' = w := by
  go_enter Trym.func15, Trym.ntmps15
  go_wp2
  go_ret
  exact ⟨rfl, rfl⟩
theorem bytes15_no (s : Int) (a : Option Addr) (len cap : Nat) (w : World) (h : 1048576 < len) :
    Calls Trym.prog 15 #[.int .u64 s, .slice a len cap] w fun e w' => e = .returned (.bool false) ∧ w' = w := by
  go_enter Trym.func15, Trym.ntmps15
  go_wp2
  go_ret
  exact ⟨rfl, rfl⟩

def AnyBool (e : Ending) : Prop := ∃ x, e = .returned (.bool x)

theorem bytes5_any (a1 a2 : Option Addr) (m1 m2 c1 c2 : Nat) (w : World) :
    Calls Trym.prog 5 #[.slice a1 m1 c1, .slice a2 m2 c2] w fun e w' => AnyBool e ∧ w' = w := by
  by_cases h1 : 1048576 < m1
  · go_enter Trym.func5, Trym.ntmps5
    go_wp2
    go_ret
    exact ⟨⟨_, rfl⟩, rfl⟩
  by_cases h2 : 1048576 < m2
  · go_enter Trym.func5, Trym.ntmps5
    go_wp2
    go_ret
    exact ⟨⟨_, rfl⟩, rfl⟩
  by_cases g2 : 1048576 < m1 + m2
  · go_enter Trym.func5, Trym.ntmps5
    go_wp2
    go_ret
    exact ⟨⟨_, rfl⟩, rfl⟩
  · go_enter Trym.func5, Trym.ntmps5
    go_wp2
    go_ret
    exact ⟨⟨_, rfl⟩, rfl⟩

end Go.Proofs.Qxb6001278aMods
