import Derived.Test.Qxb6000476aModsLeafB
namespace Go.Proofs.Qxb6000476aMods
open Go.ChangeShapes Go.WideShapes Go.ChangeAt Go.RowKit
set_option linter.unusedVariables false

/-- What 'enough' answers: the least k in 1..n whose first k counts reach 'needed', or n. -/
def EnoughPost (zs : List Int) (n : Nat) (needed : Int) (e : Ending) : Prop :=
  ∃ k : Nat, e = .returned (.int .i64 k) ∧ k ≤ n ∧ (0 < n → 0 < k) ∧ (∀ j, j + 1 < k → psum zs (j + 1) < needed) ∧ (k < n → needed ≤ psum zs k)

theorem psum_nonneg (zs : List Int) (n : Nat) (h : ∀ k, k < n → 0 ≤ zs[k]?.getD 0) : ∀ k, k ≤ n → 0 ≤ psum zs k
  | 0, _ => by simp [psum]
  | k + 1, hk => by
    have h1 := psum_nonneg zs n h k (by omega)
    have h2 := h k (by omega)
    simp only [psum]; omega

theorem enough_nil (T : Nat) (needed : Int) (zs : List Int) (w : World) (hN : w.cell? ⟨T, 0, none⟩ = some (.int .u32 needed))
    (hS : w.cell? ⟨T, 3, none⟩ = some (.slice none 0 0)) :
    Calls Trym.prog 32 #[.pointer (some ⟨T, 0, none⟩)] w fun e w' => w' = w ∧ EnoughPost zs 0 needed e := by
  go_enter Trym.func32, Trym.ntmps32
  go_wp2
  refine wp_loop_rounds 1 ?_; rw [rounds_succ]; go_wp2
  go_ret
  exact ⟨rfl, 0, rfl, by omega, by omega, by intro j hj; omega, by omega⟩

set_option maxHeartbeats 400000 in
theorem enough_any (T g n cap : Nat) (needed : Int) (p : Nat → Nat) (zs : List Int) (w : World) (hn : n ≤ 1048576) (h0 : 0 ≤ needed) (h1 : needed ≤ 4294967295)
    (hN : w.cell? ⟨T, 0, none⟩ = some (.int .u32 needed)) (hS : w.cell? ⟨T, 3, none⟩ = some (.slice (some ⟨g, 0, none⟩) n cap))
    (hP : ∀ i, i < n → w.cell? ⟨g, i, none⟩ = some (.pointer (some ⟨p i, 0, none⟩)))
    (hC : ∀ i, i < n → w.cell? ⟨p i, 1, none⟩ = some (.int .i64 (zs[i]?.getD 0)))
    (hz : ∀ k, k < n → 0 ≤ zs[k]?.getD 0 ∧ psum zs (k + 1) ≤ 4611686018427387904) :
    Calls Trym.prog 32 #[.pointer (some ⟨T, 0, none⟩)] w fun e w' => w' = w ∧ EnoughPost zs n needed e := by
  have hpos := psum_nonneg zs n (fun k hk => (hz k hk).1)
  have hz' : Hid (∀ k, k < n → 0 ≤ zs[k]?.getD 0 ∧ psum zs (k + 1) ≤ 4611686018427387904) := hz
  have hpos' : Hid (∀ k, k ≤ n → 0 ≤ psum zs k) := hpos
  have hP' : Hid (∀ i, i < n → w.cell? ⟨g, i, none⟩ = some (.pointer (some ⟨p i, 0, none⟩))) := hP
  have hC' : Hid (∀ i, i < n → w.cell? ⟨p i, 1, none⟩ = some (.int .i64 (zs[i]?.getD 0))) := hC
  clear hz hpos hP hC
  go_enter Trym.func32, Trym.ntmps32
  go_wp2
  go_loop [3, 11] (fun s i => ∃ k : Nat, k ≤ n ∧ i = .int .i64 k ∧ s = .int .i64 (psum zs k) ∧ ∀ j, j < k → psum zs (j + 1) < needed) (fun _ i => n - (intOf i).toNat)
  case atStart => exact ⟨0, Nat.zero_le _, rfl, rfl, by intro j hj; omega⟩
  case round =>
    obtain ⟨k, hk, rfl, rfl, hall⟩ := hrel
    have hall' : Hid (∀ j, j < k → psum zs (j + 1) < needed) := hall
    clear hall
    have hs0 := hpos'.out k hk
    by_cases hlt : k < n
    · have c1 := hP'.out k hlt
      have c2 := hC'.out k hlt
      obtain ⟨hz0, hz1⟩ := hz'.out k hlt
      have hs1 := hpos'.out (k + 1) hlt
      have hS' : Hid (psum zs (k + 1) = psum zs k + zs[k]?.getD 0) := rfl
      obtain ⟨z, hzk⟩ : ∃ z, z = zs[k]?.getD 0 := ⟨_, rfl⟩
      rw [← hzk] at c2 hz0 hS'
      clear hzk
      rw [hS'.out] at hz1 hs1
      by_cases hr : needed ≤ psum zs k + z
      · go_wp2
        go_ret
        exact ⟨rfl, k + 1, rfl, by omega, by omega, fun j hj => hall'.out j (by omega), fun _ => by rw [hS'.out]; exact hr⟩
      · go_wp2
        go_round
        case rel => exact ⟨k + 1, by omega, by go_num, by rw [hS'.out], by
          intro j hj
          by_cases hjk : j = k
          · subst hjk; rw [hS'.out]; omega
          · exact hall'.out j (by omega)⟩
        case measure => simp [intOf]; omega
    · have : k = n := by omega
      subst this
      go_wp2
      go_ret
      exact ⟨rfl, k, rfl, by omega, by omega, fun j hj => hall'.out j (by omega), by omega⟩

end Go.Proofs.Qxb6000476aMods
