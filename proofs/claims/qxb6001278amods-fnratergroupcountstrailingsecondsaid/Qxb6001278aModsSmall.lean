import Derived.Test.Qxb6001278aModsPlainT
namespace Go.Proofs.Qxb6001278aMods
open Go.RowKit
set_option linter.unusedVariables false

def BoolPost (x : Bool) (w : World) (e : Ending) (w' : World) : Prop := e = .returned (.bool x) ∧ ∃ q, w' = w.drewN q

set_option maxHeartbeats 400000 in
theorem seen_any (b n cap a t : Nat) (f : Nat → Int) (w : World) (hn : n ≤ 131072) (hi : a + t < n) (hc : ∀ j, j < n → w.cell? ⟨b, j, none⟩ = some (.int .i64 (f j))) :
    Calls Trym.prog 12 #[.slice (some ⟨b, 0, none⟩) n cap, .int .i64 (a : Nat), .int .i64 ((a + t : Nat) : Int)] w fun e w' => BoolPost (!fsB (shf f a) t) w e w' := by
  have hci := hc (a + t) hi
  have hc' : Hid (∀ j, j < n → w.cell? ⟨b, j, none⟩ = some (.int .i64 (f j))) := hc
  clear hc
  obtain ⟨i, hie⟩ : ∃ i, i = a + t := ⟨_, rfl⟩
  rw [← hie] at hi hci ⊢
  have HI : Hid (i = a + t) := hie
  have hai : a ≤ i := by omega
  clear hie
  go_enter Trym.func12, Trym.ntmps12
  go_wp2
  go_loopw [7] (fun j wr => ∃ (k q : Nat), a ≤ k ∧ k ≤ i ∧ j = .int .i64 k ∧ wr = w.drewN q ∧ ∀ j', a ≤ j' → j' < k → f j' ≠ f i) (fun j _ => i - (intOf j).toNat)
  case atStart => exact ⟨a, 0, Nat.le_refl _, hai, rfl, rfl, by intro j h1 h2; omega⟩
  case round =>
    obtain ⟨k, q, hak, hk, rfl, rfl, hall⟩ := hrel
    have hall' : Hid (∀ j', a ≤ j' → j' < k → f j' ≠ f i) := hall
    clear hall
    by_cases hlt : k < i
    · have hck := hc'.out k (by omega)
      have l1 : (k : Int) < (n : Int) := by omega
      have l2 : (i : Int) < (n : Int) := by omega
      by_cases he : f k = f i
      · have he' : (f k == f i) = true := by simpa using he
        have hr : Hid (fsB (shf f a) t = false) := fsB_false (j := k - a) (by have := HI.out; omega) (by
          have e1 : a + (k - a) = k := by omega
          show f (a + (k - a)) = f (a + t)
          rw [e1, ← HI.out]; exact he)
        clear he
        go_wp2
        go_quiet (fail)
        go_wp2
        go_ret
        exact ⟨by rw [hr.out]; rfl, _, by rw [World.drewN_drewN]⟩
      · have he' : (f k == f i) = false := beq_eq_false_iff_ne.2 he
        have HE : Hid (¬ f k = f i) := he
        clear he
        go_wp2
        go_quiet (fail)
        go_wp2
        go_roundw
        case rel => exact ⟨k + 1, _, by omega, by omega, by go_num, rfl, by
          intro j h1 h2
          by_cases e : j = k
          · subst e; exact HE.out
          · exact hall'.out j h1 (by omega)⟩
        case measure => simp [intOf]; omega
    · obtain rfl : k = i := by omega
      have hr : Hid (fsB (shf f a) t = true) := fsB_true (fun j hj => by
        have h1 := HI.out
        show f (a + j) ≠ f (a + t)
        rw [← h1]
        exact hall'.out (a + j) (by omega) (by omega))
      go_wp2
      go_ret
      exact ⟨by rw [hr.out]; rfl, _, rfl⟩

theorem countIn_any (b n cap a K : Nat) (f : Nat → Int) (g : Int) (w : World) (hn : n ≤ 131072) (hK : a + K ≤ n) (hc : ∀ j, j < n → w.cell? ⟨b, j, none⟩ = some (.int .i64 (f j))) :
    Calls Trym.prog 14 #[.slice (some ⟨b, 0, none⟩) n cap, .int .i64 (a : Nat), .int .i64 ((a + K : Nat) : Int), .int .i64 g] w fun e w' => e = .returned (.int .u64 (cntv (shf f a) K g)) ∧ w' = w := by
  have hc' : Hid (∀ j, j < n → w.cell? ⟨b, j, none⟩ = some (.int .i64 (f j))) := hc
  clear hc
  go_enter Trym.func14, Trym.ntmps14
  go_wp2
  go_loop [9, 10] (fun c k => ∃ t : Nat, t ≤ K ∧ k = .int .i64 ((a + t : Nat) : Int) ∧ c = .int .u64 (cntv (shf f a) t g)) (fun _ k => a + K - (intOf k).toNat)
  case atStart => exact ⟨0, Nat.zero_le _, rfl, rfl⟩
  case round =>
    obtain ⟨t, ht, rfl, rfl⟩ := hrel
    obtain ⟨d0, d1⟩ := cnt_bd (fun j => shf f a j == g) t
    change 0 ≤ cntv (shf f a) t g at d0
    change cntv (shf f a) t g ≤ t at d1
    by_cases hlt : t < K
    · have hck := hc'.out (a + t) (by omega)
      have HS : Hid (cntv (shf f a) (t + 1) g = cntv (shf f a) t g + (if (shf f a t == g) = true then 1 else 0)) := rfl
      have e1 : shf f a t = f (a + t) := rfl
      rw [e1] at HS
      obtain ⟨i, hie⟩ : ∃ i, i = a + t := ⟨_, rfl⟩
      rw [← hie] at hck HS ⊢
      have HI : Hid (i = a + t) := hie
      have hin : i < n := by omega
      have hiK : (i : Int) < (a : Int) + K := by omega
      clear hie e1
      by_cases he : f i = g
      · have he' : (f i == g) = true := by simpa using he
        rw [he'] at HS
        clear he
        go_wp2
        go_round
        case rel => exact ⟨t + 1, by omega, by have := HI.out; go_num, by rw [HS.out]; go_num⟩
        case measure => simp [intOf]; omega
      · have he' : (f i == g) = false := beq_eq_false_iff_ne.2 he
        rw [he'] at HS
        clear he
        go_wp2
        go_round
        case rel => exact ⟨t + 1, by omega, by have := HI.out; go_num, by rw [HS.out]; simp⟩
        case measure => simp [intOf]; omega
    · obtain rfl : t = K := by omega
      go_wp2
      go_ret
      exact ⟨rfl, rfl⟩

end Go.Proofs.Qxb6001278aMods
