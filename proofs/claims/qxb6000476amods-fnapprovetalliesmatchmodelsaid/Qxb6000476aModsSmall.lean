import Derived.Test.Qxb6000476aModsMem
import Derived.ProofKit
import Derived.Deep.QuietTactic
import Derived.BigQuiet
namespace Go.Proofs.Qxb6000476aMods
open Go.RowKit
set_option linter.unusedVariables false

/-- No earlier one is the same. -/
def fsB (f : Nat → Int) (i : Nat) : Bool := (List.range i).all fun j => f j != f i
/-- It is among the first m. -/
def inB (s : Nat → Int) (m : Nat) (v : Int) : Bool := (List.range m).any fun j => s j == v

theorem fsB_true {f : Nat → Int} {i : Nat} (h : ∀ j, j < i → f j ≠ f i) : fsB f i = true := by
  unfold fsB
  rw [List.all_eq_true]
  intro j hj
  simpa using h j (List.mem_range.1 hj)
theorem fsB_false {f : Nat → Int} {i j : Nat} (hj : j < i) (h : f j = f i) : fsB f i = false := by
  unfold fsB
  rw [List.all_eq_false]
  exact ⟨j, List.mem_range.2 hj, by simp [h]⟩
theorem inB_true {s : Nat → Int} {m j : Nat} {v : Int} (hj : j < m) (h : s j = v) : inB s m v = true := by
  unfold inB
  rw [List.any_eq_true]
  exact ⟨j, List.mem_range.2 hj, by simp [h]⟩
theorem inB_false {s : Nat → Int} {m : Nat} {v : Int} (h : ∀ j, j < m → s j ≠ v) : inB s m v = false := by
  unfold inB
  rw [List.any_eq_false]
  intro j hj
  simpa using h j (List.mem_range.1 hj)

def BoolPost (x : Bool) (w : World) (e : Ending) (w' : World) : Prop := e = .returned (.bool x) ∧ ∃ q, w' = w.drewN q

set_option maxHeartbeats 400000 in
theorem firstSeat_any (b n cap i : Nat) (f : Nat → Int) (w : World) (hn : n ≤ 1024) (hi : i < n) (hc : ∀ j, j < n → w.cell? ⟨b, j, none⟩ = some (.int .u32 (f j))) :
    Calls Trym.prog 25 #[.slice (some ⟨b, 0, none⟩) n cap, .int .i64 i] w fun e w' => BoolPost (fsB f i) w e w' := by
  have hci := hc i hi
  have hc' : Hid (∀ j, j < n → w.cell? ⟨b, j, none⟩ = some (.int .u32 (f j))) := hc
  clear hc
  go_enter Trym.func25, Trym.ntmps25
  go_wp2
  go_loopw [5] (fun j wr => ∃ (k q : Nat), k ≤ i ∧ j = .int .i64 k ∧ wr = w.drewN q ∧ ∀ j', j' < k → f j' ≠ f i) (fun j _ => i - (intOf j).toNat)
  case atStart => exact ⟨0, 0, Nat.zero_le _, rfl, rfl, by intro j hj; omega⟩
  case round =>
    obtain ⟨k, q, hk, rfl, rfl, hall⟩ := hrel
    have hall' : Hid (∀ j', j' < k → f j' ≠ f i) := hall
    clear hall
    by_cases hlt : k < i
    · have hck := hc'.out k (by omega)
      have l1 : (k : Int) < (n : Int) := by omega
      have l2 : (i : Int) < (n : Int) := by omega
      by_cases he : f k = f i
      · have he' : (f k == f i) = true := by simpa using he
        have hr : Hid (fsB f i = false) := fsB_false hlt he
        clear he
        go_wp2
        go_quiet (fail)
        go_wp2
        go_ret
        exact ⟨by rw [hr.out]; rfl, _, by rw [World.drewN_drewN]⟩
      · have he' : (f k == f i) = false := by simpa using he
        have HE : Hid (¬ f k = f i) := he
        clear he
        go_wp2
        go_quiet (fail)
        go_wp2
        go_roundw
        case rel => exact ⟨k + 1, _, by omega, by go_num, rfl, by
          intro j hj
          by_cases e : j = k
          · subst e; exact HE.out
          · exact hall'.out j (by omega)⟩
        case measure => simp [intOf]; omega
    · obtain rfl : k = i := by omega
      go_wp2
      go_ret
      exact ⟨by rw [fsB_true hall'.out]; rfl, _, rfl⟩

theorem inScript_any (ao : Option Addr) (b n cap : Nat) (s : Nat → Int) (v : Int) (w : World) (hn : n ≤ 1024) (hao : 0 < n → ao = some ⟨b, 0, none⟩) (hc : ∀ j, j < n → w.cell? ⟨b, j, none⟩ = some (.int .u32 (s j))) :
    Calls Trym.prog 26 #[.slice ao n cap, .int .u32 v] w fun e w' => e = .returned (.bool (inB s n v)) ∧ w' = w := by
  have hc' : Hid (∀ j, j < n → w.cell? ⟨b, j, none⟩ = some (.int .u32 (s j))) := hc
  have hao' : Hid (0 < n → ao = some ⟨b, 0, none⟩) := hao
  clear hc hao
  go_enter Trym.func26, Trym.ntmps26
  go_wp2
  go_loop [5] (fun j => ∃ k : Nat, k ≤ n ∧ j = .int .i64 k ∧ ∀ j', j' < k → s j' ≠ v) (fun j => n - (intOf j).toNat)
  case atStart => exact ⟨0, Nat.zero_le _, rfl, by intro j hj; omega⟩
  case round =>
    obtain ⟨k, hk, rfl, hall⟩ := hrel
    have hall' : Hid (∀ j', j' < k → s j' ≠ v) := hall
    clear hall
    by_cases hlt : k < n
    · obtain rfl := hao'.out (by omega)
      have hck := hc'.out k (by omega)
      by_cases he : s k = v
      · have he' : (s k == v) = true := by simpa using he
        have hr : Hid (inB s n v = true) := inB_true hlt he
        clear he
        go_wp2
        go_ret
        exact ⟨by rw [hr.out]; rfl, rfl⟩
      · have he' : (s k == v) = false := by simpa using he
        have HE : Hid (¬ s k = v) := he
        clear he
        go_wp2
        go_round
        case rel => exact ⟨k + 1, by omega, by go_num, by
          intro j hj
          by_cases e : j = k
          · subst e; exact HE.out
          · exact hall'.out j (by omega)⟩
        case measure => simp [intOf]; omega
    · obtain rfl : k = n := by omega
      go_wp2
      go_ret
      exact ⟨by rw [inB_false hall'.out]; rfl, rfl⟩

theorem fit_yes (nT : Int) (a1 a2 a3 a4 : Option Addr) (m c1 c2 c3 c4 : Nat) (w : World) (h : ¬ nT = 0) :
    Calls Trym.prog 20 #[.int .u8 nT, .slice a1 m c1, .slice a2 m c2, .slice a3 m c3, .slice a4 m c4] w fun e w' => e = .returned (.bool true) ∧ w' = w := by
  have h' : (nT != 0) = true := by simpa using h
  go_enter Trym.func20, Trym.ntmps20
  go_wp2
  go_ret
  exact ⟨rfl, rfl⟩

theorem fit_no0 (a1 a2 a3 a4 : Option Addr) (m c1 c2 c3 c4 : Nat) (w : World) :
    Calls Trym.prog 20 #[.int .u8 0, .slice a1 m c1, .slice a2 m c2, .slice a3 m c3, .slice a4 m c4] w fun e w' => e = .returned (.bool false) ∧ w' = w := by
  go_enter Trym.func20, Trym.ntmps20
  go_wp2
  go_ret
  exact ⟨rfl, rfl⟩

theorem fit_no (nT : Int) (a1 a2 a3 a4 : Option Addr) (m1 m2 m3 m4 c1 c2 c3 c4 : Nat) (w : World) (h : ¬ (m2 = m1 ∧ m3 = m1 ∧ m4 = m1)) :
    Calls Trym.prog 20 #[.int .u8 nT, .slice a1 m1 c1, .slice a2 m2 c2, .slice a3 m3 c3, .slice a4 m4 c4] w fun e w' => e = .returned (.bool false) ∧ w' = w := by
  by_cases h2 : m2 = m1
  · subst h2
    by_cases h3 : m3 = m2
    · subst h3
      have h4 : ¬ m4 = m3 := fun e => h ⟨rfl, rfl, e⟩
      have h4' : ((m4 : Int) == (m3 : Int)) = false := beq_eq_false_iff_ne.2 (by omega)
      go_enter Trym.func20, Trym.ntmps20
      go_wp2
      go_ret
      exact ⟨rfl, rfl⟩
    · have h3' : ((m3 : Int) == (m2 : Int)) = false := beq_eq_false_iff_ne.2 (by omega)
      go_enter Trym.func20, Trym.ntmps20
      go_wp2
      go_ret
      exact ⟨rfl, rfl⟩
  · have h2' : ((m2 : Int) == (m1 : Int)) = false := beq_eq_false_iff_ne.2 (by omega)
    go_enter Trym.func20, Trym.ntmps20
    go_wp2
    go_ret
    exact ⟨rfl, rfl⟩

end Go.Proofs.Qxb6000476aMods
