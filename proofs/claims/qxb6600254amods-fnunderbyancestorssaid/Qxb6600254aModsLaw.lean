import Derived.Test.Qxb6600254aModsUnder
import Derived.Deep.QuietTactic
import Derived.BigQuiet
namespace Go.Proofs.Qxb6600254aMods
open Go.RowKit
set_option linter.unusedVariables false

def byteAt (p : ByteArray) (c : Nat) : Int := ((p.data.toList[c]?.getD 0).toNat : Int)
/-- Is this folder the path's first c bytes? -/
def eqB (p d : ByteArray) (c : Nat) : Bool := decide (d.size = c) && (d.toList == (p.extract 0 c).toList)
def inB (p : ByteArray) (f : Nat → ByteArray) (c j : Nat) : Bool := (List.range j).any fun i => eqB p (f i) c
def endB (p : ByteArray) (c : Nat) : Bool := !(decide (c < p.size) && byteAt p c != 47)
def fndB (p : ByteArray) (f : Nat → ByteArray) (n k : Nat) : Bool := (List.range k).any fun c => endB p c && inB p f c n

theorem inB_succ (p : ByteArray) (f : Nat → ByteArray) (c j : Nat) : inB p f c (j + 1) = (inB p f c j || eqB p (f j) c) := by
  unfold inB
  rw [List.range_succ, List.any_append]
  simp
theorem fndB_succ (p : ByteArray) (f : Nat → ByteArray) (n k : Nat) : fndB p f n (k + 1) = (fndB p f n k || (endB p k && inB p f k n)) := by
  unfold fndB
  rw [List.range_succ, List.any_append]
  simp

theorem inB_mono (p : ByteArray) (f : Nat → ByteArray) (c : Nat) {j n : Nat} (h : j ≤ n) (ht : inB p f c j = true) : inB p f c n = true := by
  unfold inB at *
  rw [List.any_eq_true] at *
  obtain ⟨x, hx, h1⟩ := ht
  exact ⟨x, List.mem_range.2 (Nat.lt_of_lt_of_le (List.mem_range.1 hx) h), h1⟩

theorem index9 (p : ByteArray) (k : Nat) (h : k < p.size) (wx : World) : (Instr.index 9 (.string p) (.int .i64 (k : Int))).run Trym.prog wx = .ok (.int .u8 (byteAt p k)) wx := by
  rw [run_index_string wx 9 p .i64 k Trym.underlying9, dif_pos ⟨by omega, by omega⟩]
  have h2 : k < p.data.toList.length := by rw [← Lib.size_eq]; exact h
  have e : byteAt p k = (p[k].toNat : Int) := by
    unfold byteAt
    rw [List.getElem?_eq_getElem h2]
    rfl
  rw [e]
  rfl

theorem eqB_iff (p d : ByteArray) (c : Nat) : eqB p d c = true ↔ d.data.toList.length = c ∧ d.data.toList = p.data.toList.take c := by
  unfold eqB
  rw [Lib.toList_data d, Lib.extract_toList, Lib.size_eq]
  simp

theorem endB_iff (p : ByteArray) (c : Nat) : endB p c = true ↔ (c < p.data.toList.length → (p.data.toList[c]?.getD 0) = 47) := by
  unfold endB byteAt
  rw [Lib.size_eq]
  constructor
  · intro h hc
    rw [decide_eq_true hc, Bool.true_and] at h
    have h1 : ((p.data.toList[c]?.getD 0).toNat : Int) = 47 := by
      generalize ((p.data.toList[c]?.getD 0).toNat : Int) = x at h
      simpa using h
    have h2 : (p.data.toList[c]?.getD 0).toNat = (47 : UInt8).toNat := by
      show _ = 47
      omega
    exact UInt8.toNat_inj.1 h2
  · intro h
    by_cases hc : c < p.data.toList.length
    · rw [h hc]; simp
    · simp only [hc, decide_false, Bool.false_and, Bool.not_false]

theorem hit_list (l m : List UInt8) (h : m = l.take m.length) (he : m.length < l.length → l[m.length]?.getD 0 = 47) (hl : m.length ≤ l.length) : (l == m || (m ++ [47]).isPrefixOf l) = true := by
  by_cases hc : m.length < l.length
  · have e := he hc
    rw [List.getElem?_eq_getElem hc] at e
    simp at e
    have : m ++ [47] <+: l := by
      rw [List.prefix_iff_eq_take]
      simp only [List.length_append, List.length_singleton]
      rw [List.take_add_one, ← h, List.getElem?_eq_getElem hc, e]
      rfl
    have h2 : (m ++ [47]).isPrefixOf l = true := by rw [List.isPrefixOf_iff_prefix]; exact this
    rw [h2]; simp
  · have : m = l := by rw [h]; exact List.take_of_length_le (by omega)
    rw [this]; simp

theorem law_hit (p : ByteArray) (f : Nat → ByteArray) (n k : Nat) (h : fndB p f n k = true) : undB p f n = true := by
  unfold fndB at h
  rw [List.any_eq_true] at h
  obtain ⟨c, _, hc⟩ := h
  rw [Bool.and_eq_true] at hc
  obtain ⟨h1, h2⟩ := hc
  unfold inB at h2
  rw [List.any_eq_true] at h2
  obtain ⟨i, hi, h3⟩ := h2
  refine undB_hit p f (List.mem_range.1 hi) ?_
  rw [eqB_iff] at h3
  rw [endB_iff] at h1
  obtain ⟨rfl, h5⟩ := h3
  unfold hitB Lib.hasPrefix
  refine hit_list _ _ h5 h1 ?_
  have := congrArg List.length h5
  simp only [List.length_take] at this
  omega

theorem miss_list (l m : List UInt8) (h : (l == m || (m ++ [47]).isPrefixOf l) = true) : m.length ≤ l.length ∧ m = l.take m.length ∧ (m.length < l.length → l[m.length]?.getD 0 = 47) := by
  rw [Bool.or_eq_true] at h
  rcases h with h | h
  · have e : l = m := by simpa using h
    subst e
    simp
  · rw [List.isPrefixOf_iff_prefix] at h
    obtain ⟨r, rfl⟩ := h
    simp

theorem law_miss (p : ByteArray) (f : Nat → ByteArray) (n : Nat) (h : fndB p f n (p.size + 1) = false) : undB p f n = false := by
  cases hu : undB p f n with
  | false => rfl
  | true =>
    exfalso
    unfold undB at hu
    rw [List.any_eq_true] at hu
    obtain ⟨i, hi, h1⟩ := hu
    unfold hitB Lib.hasPrefix at h1
    obtain ⟨h2, h3, h4⟩ := miss_list _ _ h1
    have : fndB p f n (p.size + 1) = true := by
      unfold fndB
      rw [List.any_eq_true]
      refine ⟨(f i).data.toList.length, List.mem_range.2 (by rw [Lib.size_eq]; omega), ?_⟩
      rw [Bool.and_eq_true]
      refine ⟨(endB_iff _ _).2 h4, ?_⟩
      unfold inB
      rw [List.any_eq_true]
      exact ⟨i, hi, (eqB_iff _ _ _).2 ⟨rfl, h3⟩⟩
    rw [this] at h
    cases h

set_option maxHeartbeats 2000000 in
set_option maxRecDepth 100000 in
theorem law_main (p : ByteArray) (a : Option Addr) (n cap : Nat) (f : Nat → ByteArray) (w : World) (s1 : ArgSl w a n cap (fun i => .string (f i))) :
    Calls Trym.prog 5 #[.string p, .slice a n cap] w fun e w' => e = .returned (.bool true) ∧ Below w.heap.size w w' := by
  have S1 : Hid (ArgSl w a n cap (fun i => .string (f i))) := s1
  clear s1
  go_enter Trym.func5, Trym.ntmps5
  go_wp2_with fail
  refine (bytes15 p a n cap f w S1.out.rd).mono ?_
  rintro e w' ⟨B, rfl, hw, hB⟩; rw [hw]; clear hw w'
  cases B with
  | false =>
    go_wp2
    go_ret
    exact ⟨rfl, Below.refl _ _⟩
  | true =>
    obtain ⟨hn, hf⟩ := hB rfl
    have HF : Hid (∀ i, i < n → (f i).size ≤ 1048576) := hf
    clear hB hf
    by_cases h1 : 65536 < p.size
    · go_wp2
      go_ret
      exact ⟨rfl, Below.refl _ _⟩
    by_cases h2 : 1024 < n
    · go_wp2
      go_ret
      exact ⟨rfl, Below.refl _ _⟩
    go_wp2_with fail
    refine (sum9 a n cap f w (by omega) HF.out S1.out.rd).mono ?_
    rintro e w' ⟨r, rfl, hw, hr⟩; rw [hw]; clear hw w'
    by_cases h3 : 1048576 < p.size + r
    · go_wp2
      go_ret
      exact ⟨rfl, Below.refl _ _⟩
    go_wp2_with fail
    refine (clone11_sl a n cap f w (by omega) S1.out).mono ?_
    rintro e w1 ⟨ao, b0, q1, rfl, t1, b1⟩
    have RD : Hid (Rd w1 ao n f) := t1.rd
    have HB1 : Hid (Below w.heap.size w w1) := b1
    clear t1 b1 S1
    go_wp2
    go_loop [5, 6] (fun o i => ∃ k : Nat, k ≤ p.size + 1 ∧ i = .int .i64 k ∧ o = .bool (fndB p f n k)) (fun _ i => p.size + 1 - (intOf i).toNat)
    case atStart => exact ⟨0, Nat.zero_le _, rfl, rfl⟩
    case round =>
      obtain ⟨k, hk, rfl, rfl⟩ := hrel
      have HS : Hid (fndB p f n (k + 1) = (fndB p f n k || (endB p k && inB p f k n))) := fndB_succ p f n k
      obtain ⟨o, ho⟩ : ∃ o, o = fndB p f n k := ⟨_, rfl⟩
      rw [← ho] at HS ⊢
      have HO : Hid (o = fndB p f n k) := ho
      clear ho
      cases o with
      | true =>
        have HL : Hid (undB p f n = true) := law_hit p f n k HO.out.symm
        have HU := (show Hid _ from zzunder16 p ao n q1 f w1 (by omega) (by omega) HF.out RD.out)
        by_cases hle : k ≤ p.size
        all_goals
          go_wp2_with fail
          refine Calls.mono HU.out ?_
          rintro e w' ⟨rfl, hw⟩; rw [hw, HL.out]; clear hw w'
          go_wp2
          go_ret
          exact ⟨rfl, HB1.out⟩
      | false =>
        by_cases hle : k ≤ p.size
        · by_cases hlt : k < p.size
          · have hby : ∀ wx, (Instr.index 9 (.string p) (.int .i64 (k : Int))).run Trym.prog wx = .ok (.int .u8 (byteAt p k)) wx := fun wx => index9 p k hlt wx
            by_cases hc : byteAt p k = 47
            · have HE : Hid (endB p k = true) := by
                show _ = _
                simp [endB, hc]
              rw [hc] at hby
              clear hc
              go_wp2_with fail
              go_loop [5, 8] (fun o i => ∃ j : Nat, j ≤ n ∧ i = .int .i64 j ∧ o = .bool (inB p f k j)) (fun _ i => n - (intOf i).toNat)
              case atStart => exact ⟨0, Nat.zero_le _, rfl, rfl⟩
              case round =>
                obtain ⟨j, hj, rfl, rfl⟩ := hrel
                have HI : Hid (inB p f k (j + 1) = (inB p f k j || eqB p (f j) k)) := inB_succ p f k j
                obtain ⟨o, ho⟩ : ∃ o, o = inB p f k j := ⟨_, rfl⟩
                rw [← ho] at HI ⊢
                have HJ : Hid (o = inB p f k j) := ho
                clear ho
                cases o with
                | true =>
                  have HT : Hid (inB p f k n = true) := inB_mono p f k hj HJ.out.symm
                  by_cases hjn : j < n
                  all_goals
                    go_wp2_with fail
                    go_round
                    case rel => exact ⟨k + 1, by omega, by go_num, by rw [HS.out, HE.out, HT.out]; rfl⟩
                    case measure => simp [intOf]; omega
                | false =>
                  by_cases hjn : j < n
                  · obtain ⟨b, off, rfl, hcell⟩ := RD.out j hjn
                    obtain ⟨d, hd⟩ : ∃ d, d = f j := ⟨_, rfl⟩
                    rw [← hd] at hcell HI
                    clear hd
                    by_cases hsz : d.size = k
                    · have HQ : Hid (eqB p d k = (d.toList == (p.extract 0 k).toList)) := by
                        show _ = _
                        simp [eqB, hsz]
                      cases hq : (d.toList == (p.extract 0 k).toList)
                      all_goals
                        rw [hq] at HQ
                        go_wp2_with fail
                        go_round
                        case rel => exact ⟨j + 1, by omega, by go_num, by rw [HI.out, HQ.out]; rfl⟩
                        case measure => simp [intOf]; omega
                    · have HQ : Hid (eqB p d k = false) := by
                        show _ = _
                        simp [eqB, hsz]
                      go_wp2_with fail
                      go_round
                      case rel => exact ⟨j + 1, by omega, by go_num, by rw [HI.out, HQ.out]; rfl⟩
                      case measure => simp [intOf]; omega
                  · obtain rfl : j = n := by omega
                    go_wp2_with fail
                    go_round
                    case rel => exact ⟨k + 1, by omega, by go_num, by rw [HS.out, HE.out, ← HJ.out]; rfl⟩
                    case measure => simp [intOf]; omega
            · have HE : Hid (endB p k = false) := by
                show _ = _
                simp [endB, hc, hlt]
              go_wp2_with fail
              go_round
              case rel => exact ⟨k + 1, by omega, by go_num, by rw [HS.out, HE.out]; rfl⟩
              case measure => simp [intOf]; omega
          · have HE : Hid (endB p k = true) := by
              show _ = _
              simp [endB, hlt]
            go_wp2_with fail
            go_loop [5, 8] (fun o i => ∃ j : Nat, j ≤ n ∧ i = .int .i64 j ∧ o = .bool (inB p f k j)) (fun _ i => n - (intOf i).toNat)
            case atStart => exact ⟨0, Nat.zero_le _, rfl, rfl⟩
            case round =>
              obtain ⟨j, hj, rfl, rfl⟩ := hrel
              have HI : Hid (inB p f k (j + 1) = (inB p f k j || eqB p (f j) k)) := inB_succ p f k j
              obtain ⟨o, ho⟩ : ∃ o, o = inB p f k j := ⟨_, rfl⟩
              rw [← ho] at HI ⊢
              have HJ : Hid (o = inB p f k j) := ho
              clear ho
              cases o with
              | true =>
                have HT : Hid (inB p f k n = true) := inB_mono p f k hj HJ.out.symm
                by_cases hjn : j < n
                all_goals
                  go_wp2_with fail
                  go_round
                  case rel => exact ⟨k + 1, by omega, by go_num, by rw [HS.out, HE.out, HT.out]; rfl⟩
                  case measure => simp [intOf]; omega
              | false =>
                by_cases hjn : j < n
                · obtain ⟨b, off, rfl, hcell⟩ := RD.out j hjn
                  obtain ⟨d, hd⟩ : ∃ d, d = f j := ⟨_, rfl⟩
                  rw [← hd] at hcell HI
                  clear hd
                  by_cases hsz : d.size = k
                  · have HQ : Hid (eqB p d k = (d.toList == (p.extract 0 k).toList)) := by
                      show _ = _
                      simp [eqB, hsz]
                    cases hq : (d.toList == (p.extract 0 k).toList)
                    all_goals
                      rw [hq] at HQ
                      go_wp2_with fail
                      go_round
                      case rel => exact ⟨j + 1, by omega, by go_num, by rw [HI.out, HQ.out]; rfl⟩
                      case measure => simp [intOf]; omega
                  · have HQ : Hid (eqB p d k = false) := by
                      show _ = _
                      simp [eqB, hsz]
                    go_wp2_with fail
                    go_round
                    case rel => exact ⟨j + 1, by omega, by go_num, by rw [HI.out, HQ.out]; rfl⟩
                    case measure => simp [intOf]; omega
                · obtain rfl : j = n := by omega
                  go_wp2_with fail
                  go_round
                  case rel => exact ⟨k + 1, by omega, by go_num, by rw [HS.out, HE.out, ← HJ.out]; rfl⟩
                  case measure => simp [intOf]; omega
        · obtain rfl : k = p.size + 1 := by omega
          have HL : Hid (undB p f n = false) := law_miss p f n HO.out.symm
          have HU := (show Hid _ from zzunder16 p ao n q1 f w1 (by omega) (by omega) HF.out RD.out)
          go_wp2_with fail
          refine Calls.mono HU.out ?_
          rintro e w' ⟨rfl, hw⟩; rw [hw, HL.out]; clear hw w'
          go_wp2
          go_ret
          exact ⟨rfl, HB1.out⟩

end Go.Proofs.Qxb6600254aMods
