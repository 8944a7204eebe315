import Derived.Test.Qxb6000476aModsRows
import Derived.WalkKit
import Derived.ProofKit
import Derived.OpenShut
import Derived.ShutString
import Derived.ChangeOld
import Derived.Below
namespace Go.Proofs.Qxb6000476aMods
open Go.ChangeShapes Go.WideShapes Go.ChangeAt Go.RowKit
set_option linter.unusedVariables false

/-- The sum of the first k numbers. -/
def psum (zs : List Int) : Nat → Int
  | 0 => 0
  | k + 1 => psum zs k + zs[k]?.getD 0

def WithinPost (zs : List Int) (len : Nat) (lim : Int) (e : Ending) : Prop :=
  ∃ s ok, e = .returned (.tuple #[.int .i64 s, .bool ok]) ∧ (ok = true → ∀ k, k < len → 0 ≤ zs[k]?.getD 0 ∧ psum zs (k + 1) ≤ lim)

set_option maxHeartbeats 400000 in
theorem within_any (b off len cap : Nat) (zs : List Int) (lim : Int) (w : World) (hm : len ≤ 1048576) (hl0 : 0 ≤ lim) (hlim : lim ≤ 4611686018427387904)
    (hwf : ∀ k : Nat, -9223372036854775808 ≤ zs[k]?.getD 0 ∧ zs[k]?.getD 0 ≤ 9223372036854775807)
    (hc : ∀ i, i < len → w.cell? ⟨b, off + i, none⟩ = some (.int .i64 (zs[i]?.getD 0))) :
    Calls Trym.prog 13 #[.slice (some ⟨b, off, none⟩) len cap, .int .i64 0, .int .i64 lim] w fun e w' =>
      w' = w ∧ WithinPost zs len lim e := by
  go_enter Trym.func13, Trym.ntmps13
  go_wp2
  go_loop [1, 8] (fun s i => ∃ k : Nat, k ≤ len ∧ i = .int .i64 k ∧ s = .int .i64 (psum zs k) ∧ 0 ≤ psum zs k ∧ psum zs k ≤ lim ∧ ∀ j, j < k → 0 ≤ zs[j]?.getD 0 ∧ psum zs (j + 1) ≤ lim) (fun _ i => len - (intOf i).toNat)
  case atStart => exact ⟨0, Nat.zero_le _, rfl, rfl, by simp [psum], by simp [psum, hl0], by intro j hj; omega⟩
  case round =>
    obtain ⟨k, hk, rfl, rfl, h0, h1, hall⟩ := hrel
    have hall' : Hid (∀ j, j < k → 0 ≤ zs[j]?.getD 0 ∧ psum zs (j + 1) ≤ lim) := hall
    clear hall
    by_cases hlt : k < len
    · have hcell := hc k hlt
      obtain ⟨hw1, hw2⟩ := hwf k
      have hS : Hid (psum zs (k + 1) = psum zs k + zs[k]?.getD 0) := rfl
      obtain ⟨z, hz⟩ : ∃ z, z = zs[k]?.getD 0 := ⟨_, rfl⟩
      rw [← hz] at hcell hw1 hw2 hS
      have hz' : Hid (z = zs[k]?.getD 0) := hz
      clear hz hc hwf
      by_cases hneg : z < 0
      · go_wp2
        go_ret2
        exact ⟨rfl, _, _, rfl, by simp⟩
      · by_cases hgt : lim - psum zs k < z
        · go_wp2
          go_ret2
          exact ⟨rfl, _, _, rfl, by simp⟩
        · go_wp2
          go_round
          case rel => exact ⟨k + 1, by omega, by go_num, by rw [hS.out], by rw [hS.out]; omega, by rw [hS.out]; omega, by
            intro j hj
            by_cases hjk : j = k
            · subst hjk; rw [hS.out, ← hz'.out]; omega
            · exact hall'.out j (by omega)⟩
          case measure => simp [intOf]; omega
    · have : k = len := by omega
      subst this
      go_wp2
      go_ret2
      exact ⟨rfl, _, _, rfl, fun _ => hall'.out⟩

theorem within_zero (a : Option Addr) (cap : Nat) (lim : Int) (w : World) :
    Calls Trym.prog 13 #[.slice a 0 cap, .int .i64 0, .int .i64 lim] w fun e w' => e = .returned (.tuple #[.int .i64 0, .bool true]) ∧ w' = w := by
  go_enter Trym.func13, Trym.ntmps13
  go_wp2
  refine wp_loop_rounds 1 ?_; rw [rounds_succ]
  go_wp2
  go_ret2
  exact ⟨rfl, rfl⟩

end Go.Proofs.Qxb6000476aMods
