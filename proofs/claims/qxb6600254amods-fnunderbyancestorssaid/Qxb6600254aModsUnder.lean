import Derived.Test.Qxb6600254aModsClone
import Derived.Lib.Strings
import Derived.Laws.Strings3
import Derived.Laws.Concat
namespace Go.Proofs.Qxb6600254aMods
open Go.RowKit
set_option linter.unusedVariables false

/-- A slice of strings that can be read, however it lies. -/
def Rd (w : World) (a : Option Addr) (n : Nat) (f : Nat → ByteArray) : Prop :=
  ∀ k, k < n → ∃ b off, a = some ⟨b, off, none⟩ ∧ w.cell? ⟨b, off + k, none⟩ = some (.string (f k))

theorem ArgSl.rd {w : World} {a : Option Addr} {n cap : Nat} {f : Nat → ByteArray} (h : ArgSl w a n cap (fun i => .string (f i))) : Rd w a n f := fun _ hk => h.get hk
theorem SlA.rd {w : World} {a : Option Addr} {b n : Nat} {f : Nat → ByteArray} (h : SlA w a b n (fun i => .string (f i))) : Rd w a n f := fun _ hk => h.get hk

theorem pre28 (s p : ByteArray) (w : World) :
    Calls Trym.prog 28 #[.string s, .string p] w fun e w' => e = .returned (.bool (Lib.hasPrefix s.data.toList p.data.toList)) ∧ w' = w := by
  rw [← Lib.hasPrefix_of_take, ← Lib.size_eq, ← Lib.size_eq]
  go_enter Trym.func28, Trym.ntmps28
  go_wp2
  · rename_i h
    go_ret
    refine ⟨?_, rfl⟩
    show Ending.returned (Value.bool ((s.extract 0 p.size).toList == p.toList)) = _
    rw [Lib.extract_toList, Lib.toList_data]
    simp [h]
  · rename_i h
    go_ret
    refine ⟨?_, rfl⟩
    show Ending.returned (Value.bool false) = _
    simp [h]

theorem pre23 (s p : ByteArray) (w : World) :
    Calls Trym.prog 23 #[.string s, .string p] w fun e w' => e = .returned (.bool (Lib.hasPrefix s.data.toList p.data.toList)) ∧ w' = w := by
  go_enter Trym.func23, Trym.ntmps23
  go_wp2_with (go_at_call 28; refine (pre28 _ _ _).mono ?_; rintro e w' ⟨rfl, hw⟩; rw [hw])
  go_ret
  exact ⟨rfl, rfl⟩

/-- What 'under' asks of one folder. -/
def hitB (p d : ByteArray) : Bool := p.data.toList == d.data.toList || Lib.hasPrefix p.data.toList (d.data.toList ++ [47])
def undB (p : ByteArray) (f : Nat → ByteArray) (n : Nat) : Bool := (List.range n).any fun i => hitB p (f i)

theorem undB_zero (p : ByteArray) (f : Nat → ByteArray) : undB p f 0 = false := rfl
theorem undB_succ (p : ByteArray) (f : Nat → ByteArray) (k : Nat) : undB p f (k + 1) = (undB p f k || hitB p (f k)) := by
  unfold undB
  rw [List.range_succ, List.any_append]
  simp
theorem undB_hit (p : ByteArray) (f : Nat → ByteArray) {k n : Nat} (hk : k < n) (h : hitB p (f k) = true) : undB p f n = true := by
  unfold undB
  rw [List.any_eq_true]
  exact ⟨k, List.mem_range.2 hk, h⟩

theorem hit_raw (p d : ByteArray) : hitB p d = ((p.toList == d.toList) || Lib.hasPrefix p.data.toList (d ++ ⟨#[47]⟩ : ByteArray).data.toList) := by
  unfold hitB
  rw [Lib.toList_data, Lib.toList_data]
  congr 2

set_option maxHeartbeats 1000000 in
theorem under20 (p : ByteArray) (a : Option Addr) (n cap : Nat) (f : Nat → ByteArray) (w : World) (hn : n ≤ 1048576) (hp : p.size ≤ 1048576) (hf : ∀ i, i < n → (f i).size ≤ 1048576) (rd : Rd w a n f) :
    Calls Trym.prog 20 #[.string p, .slice a n cap] w fun e w' => e = .returned (.bool (undB p f n)) ∧ w' = w := by
  have RD : Hid (Rd w a n f) := rd
  have HF : Hid (∀ i, i < n → (f i).size ≤ 1048576) := hf
  clear rd hf
  go_enter Trym.func20, Trym.ntmps20
  go_wp2
  go_loop [9] (fun i => ∃ k : Nat, k ≤ n ∧ i = .int .i64 k ∧ undB p f k = false) (fun i => n - (intOf i).toNat)
  case atStart => exact ⟨0, Nat.zero_le _, rfl, rfl⟩
  case round =>
    obtain ⟨k, hk, rfl, hu⟩ := hrel
    have HU : Hid (undB p f k = false) := hu
    clear hu
    by_cases hlt : k < n
    · obtain ⟨b, off, rfl, hcell⟩ := RD.out k hlt
      have hsz := HF.out k hlt
      obtain ⟨d, hd⟩ : ∃ d, d = f k := ⟨_, rfl⟩
      rw [← hd] at hcell hsz
      have HD : Hid (d = f k) := hd
      clear hd
      have hadd : ∀ wx, (Op.stringOp .add d ⟨#[47]⟩).run Trym.prog wx = .ok (.string (d ++ ⟨#[47]⟩)) wx := fun wx => run_string_add_sum _ _ _ (by have : (⟨#[47]⟩ : ByteArray).size = 1 := rfl; omega)
      have HH : Hid (hitB p d = ((p.toList == d.toList) || Lib.hasPrefix p.data.toList (d ++ ⟨#[47]⟩ : ByteArray).data.toList)) := hit_raw p d
      cases hE : (p.toList == d.toList)
      · rw [hE] at HH
        go_wp2_with fail
        refine (pre23 _ _ _).mono ?_
        rintro e w' ⟨rfl, hw⟩; rw [hw]; clear hw w'
        obtain ⟨X, hX⟩ : ∃ X, X = Lib.hasPrefix p.data.toList (d ++ ⟨#[47]⟩ : ByteArray).data.toList := ⟨_, rfl⟩
        rw [← hX] at HH ⊢
        clear hX
        cases X
        · go_wp2
          go_round
          case rel => exact ⟨k + 1, by omega, by go_num, by rw [undB_succ, HU.out, ← HD.out, HH.out]; rfl⟩
          case measure => simp [intOf]; omega
        · go_wp2
          go_ret
          refine ⟨?_, rfl⟩
          rw [undB_hit p f hlt (by rw [← HD.out, HH.out]; rfl)]
          rfl
      · rw [hE] at HH
        go_wp2_with fail
        go_ret
        refine ⟨?_, rfl⟩
        rw [undB_hit p f hlt (by rw [← HD.out, HH.out]; rfl)]
        rfl
    · obtain rfl : k = n := by omega
      go_wp2
      go_ret
      exact ⟨by rw [HU.out]; rfl, rfl⟩

theorem zzunder16 (p : ByteArray) (a : Option Addr) (n cap : Nat) (f : Nat → ByteArray) (w : World) (hn : n ≤ 1048576) (hp : p.size ≤ 1048576) (hf : ∀ i, i < n → (f i).size ≤ 1048576) (rd : Rd w a n f) :
    Calls Trym.prog 16 #[.string p, .slice a n cap] w fun e w' => e = .returned (.bool (undB p f n)) ∧ w' = w := by
  have H := (show Hid _ from under20 p a n cap f w hn hp hf rd)
  clear hf rd
  go_enter Trym.func16, Trym.ntmps16
  go_wp2_with fail
  refine Calls.mono H.out ?_
  rintro e w' ⟨rfl, hw⟩; rw [hw]; clear hw w'
  go_wp2
  go_ret
  exact ⟨rfl, rfl⟩

/-- What the weighing of the arguments tells. -/
def WeighPost (w : World) (n : Nat) (f : Nat → ByteArray) (e : Ending) (w' : World) : Prop :=
  ∃ B, e = .returned (.bool B) ∧ w' = w ∧ (B = true → n ≤ 1048576 ∧ ∀ i, i < n → (f i).size ≤ 1048576)

set_option maxHeartbeats 1000000 in
theorem bytes15 (p : ByteArray) (a : Option Addr) (n cap : Nat) (f : Nat → ByteArray) (w : World) (rd : Rd w a n f) :
    Calls Trym.prog 15 #[.string p, .slice a n cap] w fun e w' => WeighPost w n f e w' := by
  have RD : Hid (Rd w a n f) := rd
  clear rd
  by_cases h1 : 1048576 < p.size
  · go_enter Trym.func15, Trym.ntmps15
    go_wp2
    go_ret
    exact ⟨false, rfl, rfl, fun h => by cases h⟩
  by_cases h2 : 1048576 < n
  · go_enter Trym.func15, Trym.ntmps15
    go_wp2
    go_ret
    exact ⟨false, rfl, rfl, fun h => by cases h⟩
  by_cases h3 : 1048576 < p.size + n
  · go_enter Trym.func15, Trym.ntmps15
    go_wp2
    go_ret
    exact ⟨false, rfl, rfl, fun h => by cases h⟩
  go_enter Trym.func15, Trym.ntmps15
  go_wp2
  go_loop [5, 6] (fun t i => ∃ (k : Nat) (z : Nat), k ≤ n ∧ i = .int .i64 k ∧ t = .int .i64 z ∧ z ≤ 1048576 ∧ ∀ j, j < k → (f j).size ≤ 1048576) (fun _ i => n - (intOf i).toNat)
  case atStart => exact ⟨0, p.size + n, Nat.zero_le _, rfl, by go_num, by omega, fun j hj => by omega⟩
  case round =>
    obtain ⟨k, z, hk, rfl, rfl, hz, ha⟩ := hrel
    have HA : Hid (∀ j, j < k → (f j).size ≤ 1048576) := ha
    clear ha
    by_cases hlt : k < n
    · obtain ⟨b, off, rfl, hcell⟩ := RD.out k hlt
      obtain ⟨d, hd⟩ : ∃ d, d = f k := ⟨_, rfl⟩
      rw [← hd] at hcell
      have HD : Hid (d = f k) := hd
      clear hd
      by_cases h4 : 1048576 < d.size
      · go_wp2
        go_ret
        exact ⟨false, rfl, rfl, fun h => by cases h⟩
      · by_cases h5 : 1048576 < z + d.size
        · go_wp2
          go_ret
          exact ⟨false, rfl, rfl, fun h => by cases h⟩
        · go_wp2
          go_round
          case rel =>
            refine ⟨k + 1, z + d.size, by omega, by go_num, by go_num, by omega, fun j hj => ?_⟩
            by_cases e : j = k
            · subst e; rw [← HD.out]; omega
            · exact HA.out j (by omega)
          case measure => simp [intOf]; omega
    · obtain rfl : k = n := by omega
      go_wp2
      go_ret
      exact ⟨true, rfl, rfl, fun _ => ⟨by omega, HA.out⟩⟩

def SumPost (w : World) (e : Ending) (w' : World) : Prop := ∃ r : Nat, e = .returned (.int .i64 r) ∧ w' = w ∧ r ≤ 4000000

set_option maxHeartbeats 1000000 in
theorem sum9 (a : Option Addr) (n cap : Nat) (f : Nat → ByteArray) (w : World) (hn : n ≤ 1048576) (hf : ∀ i, i < n → (f i).size ≤ 1048576) (rd : Rd w a n f) :
    Calls Trym.prog 9 #[.slice a n cap] w fun e w' => SumPost w e w' := by
  have RD : Hid (Rd w a n f) := rd
  have HF : Hid (∀ i, i < n → (f i).size ≤ 1048576) := hf
  clear rd hf
  go_enter Trym.func9, Trym.ntmps9
  go_wp2
  go_loop [3, 4] (fun t i => ∃ (k : Nat) (z : Nat), k ≤ n ∧ i = .int .i64 k ∧ t = .int .i64 z ∧ z ≤ 1048576) (fun _ i => n - (intOf i).toNat)
  case atStart => exact ⟨0, 0, Nat.zero_le _, rfl, rfl, by omega⟩
  case round =>
    obtain ⟨k, z, hk, rfl, rfl, hz⟩ := hrel
    by_cases hlt : k < n
    · obtain ⟨b, off, rfl, hcell⟩ := RD.out k hlt
      have hsz := HF.out k hlt
      obtain ⟨d, hd⟩ : ∃ d, d = f k := ⟨_, rfl⟩
      rw [← hd] at hcell hsz
      clear hd
      by_cases h5 : 1048576 < z + (16 + d.size)
      · go_wp2
        go_ret
        exact ⟨z + (16 + d.size), by go_num, rfl, by omega⟩
      · go_wp2
        go_round
        case rel => exact ⟨k + 1, z + (16 + d.size), by omega, by go_num, by go_num, by omega⟩
        case measure => simp [intOf]; omega
    · obtain rfl : k = n := by omega
      go_wp2
      go_ret
      exact ⟨z, rfl, rfl, by omega⟩

end Go.Proofs.Qxb6600254aMods
