import Derived.Test.Qxb6000476aModsOps
namespace Go.Proofs.Qxb6000476aMods
open Go.RowKit
set_option linter.unusedVariables false

abbrev FT := Int → Option (Option Nat × Bool × Bool)

/-- What Approve(v) does to the validators, the approvals, the no-shows. -/
def apF (F : FT) (v : Int) : FT := fun u => if u = v then (match F v with | none => some (none, true, false) | some (k, _, late) => some (k, true, late)) else F u
def hitA (F : FT) (v : Int) (j : Nat) : Int := match F v with | some (some k, false, _) => if k = j then 1 else 0 | _ => 0
def hitN (F : FT) (v : Int) (j : Nat) : Int := match F v with | some (some k, false, true) => if k = j then 1 else 0 | _ => 0

theorem TrkC.congr {B : Nat} {l : Lay} {C A N C' A' N' : Nat → Int} {c : Int → Option Nat} {F F' : FT} {w : World} (h : TrkC B l C A N c F w)
    (hC : ∀ j, C' j = C j) (hA : ∀ j, A' j = A j) (hN : ∀ j, N' j = N j) (hF : ∀ v, F' v = F v) : TrkC B l C' A' N' c F' w := by
  obtain rfl : C' = C := funext hC
  obtain rfl : A' = A := funext hA
  obtain rfl : N' = N := funext hN
  obtain rfl : F' = F := funext hF
  exact h

theorem validator_some {B : Nat} {l : Lay} {C A N : Nat → Int} {c : Int → Option Nat} {F : FT} (v : Int) (b : Nat) (w : World) (h : TrkC B l C A N c F w) (hcv : c v = some b) :
    Calls Trym.prog 37 #[.pointer (some ⟨l.T, 0, none⟩), .int .u32 v] w fun e w' => e = .returned (.pointer (some ⟨b, 0, none⟩)) ∧ w' = w := by
  obtain ⟨es, cl, hm, hes⟩ := h.mp
  have hlk := run_lookup54 hm hes v
  have hc2 : w.cell? ⟨l.T, 2, none⟩ = some (.map (some l.M)) := blk_cell h.tr rfl
  rw [hcv] at hlk
  simp only [Option.map_some, Option.isSome_some] at hlk
  clear h hm hes hcv
  go_enter Trym.func37, Trym.ntmps37
  go_wp2
  go_ret
  exact ⟨rfl, rfl⟩

theorem validator_none {B : Nat} {l : Lay} {C A N : Nat → Int} {c : Int → Option Nat} {F : FT} (v : Int) (w : World) (h : TrkC B l C A N c F w) (hcv : c v = none) :
    Calls Trym.prog 37 #[.pointer (some ⟨l.T, 0, none⟩), .int .u32 v] w fun e w' => e = .returned (.pointer (some ⟨w.heap.size, 0, none⟩)) ∧
      (TrkC B l C A N (fun u => if u = v then some w.heap.size else c u) (fun u => if u = v then some (none, false, false) else F u) w' ∧ Fr B w w') := by
  obtain ⟨es, cl, hm, hes⟩ := h.mp
  have hlk := run_lookup54 hm hes v
  have hc2 : w.cell? ⟨l.T, 2, none⟩ = some (.map (some l.M)) := blk_cell h.tr rfl
  have hTlt : l.T < w.heap.size := blk_lt h.tr
  have hB : B ≤ w.heap.size := by have := h.hT; omega
  have hm1 : (w.alloc (.cells #[.pointer none, .int .u64 0, .bool false, .bool false] 70)).heap[l.M]? = some (.map es cl) := by
    rw [Below.heap_alloc _ _ _ (blk_lt hm)]; exact hm
  have hup := run_update54 hm1 hes v hcv (.pointer (some ⟨w.heap.size, 0, none⟩))
  obtain ⟨W1, hW1⟩ : ∃ W1, W1 = { w.alloc (.cells #[.pointer none, .int .u64 0, .bool false, .bool false] 70) with heap := (w.alloc (.cells #[.pointer none, .int .u64 0, .bool false, .bool false] 70)).heap.setIfInBounds l.M (.map (es.push { key := .int .u32 v, val := .pointer (some ⟨w.heap.size, 0, none⟩), born := cl }) (cl + 1)) } := ⟨_, rfl⟩
  rw [← hW1] at hup
  have hend : Hid (TrkC B l C A N (fun u => if u = v then some w.heap.size else c u) (fun u => if u = v then some (none, false, false) else F u) W1 ∧ Fr B w W1) := by
    refine ⟨h.addChk hB hcv (by intro j hj; cases hj) hm hes (by rw [hW1]; rfl), ?_⟩
    rw [hW1]
    exact ((Fr.refl B w).alloc hB _).setMap hm1 h.hM _
  rw [hcv] at hlk
  simp only [Option.map_none, Option.isSome_none] at hlk
  clear h hm hes hcv hm1 hW1
  go_enter Trym.func37, Trym.ntmps37
  go_wp2
  go_ret
  exact ⟨rfl, hend.out⟩

/-- Approve at a validator that is not known. -/
theorem approve_none {B : Nat} {l : Lay} {C A N : Nat → Int} {c : Int → Option Nat} {F : FT} (v : Int) (w : World) (h : TrkC B l C A N c F w) (hcv : c v = none) :
    Calls Trym.prog 24 #[.pointer (some ⟨l.T, 0, none⟩), .int .u32 v] w fun e w' => e = .returned (.tuple #[]) ∧
      (Trk B l C (fun j => A j + hitA F v j) (fun j => N j - hitN F v j) (apF F v) w' ∧ Fr B w w') := by
  have hF := h.non v hcv
  go_enter Trym.func24, Trym.ntmps24
  go_wp2_with fail
  refine (validator_none v w h hcv).mono ?_
  rintro e w1 ⟨rfl, h1, fr⟩
  obtain ⟨k, ap, late, g1, g2, g3⟩ := h1.chk v w.heap.size (by simp)
  simp only [if_true, Option.some.injEq, Prod.mk.injEq] at g1
  obtain ⟨rfl, rfl, rfl⟩ := g1
  have c0 : w1.cell? ⟨w.heap.size, 0, none⟩ = some (.pointer none) := blk_cell g2 rfl
  have c2 : w1.cell? ⟨w.heap.size, 2, none⟩ = some (.bool false) := blk_cell g2 rfl
  have f2 : w1.frozen? ⟨w.heap.size, 2, none⟩ = false := blk_free g2
  have hend : Hid (Trk B l C (fun j => A j + hitA F v j) (fun j => N j - hitN F v j) (apF F v) (w1.setCell ⟨w.heap.size, 2, none⟩ (.bool true)) ∧ Fr B w (w1.setCell ⟨w.heap.size, 2, none⟩ (.bool true))) := by
    have b1 := heap_setCell_at w1 _ 2 (.bool true) _ _ g2
    refine ⟨⟨_, (h1.putChk (w' := w1.setCell ⟨w.heap.size, 2, none⟩ (.bool true)) (v := v) (b := w.heap.size) (k := none) (ap := false) (late := false) (by simp) (by simp) (by rw [b1]; rfl) (fun b' hb' => Below.heap_setCell _ _ _ _ hb')).congr (fun _ => rfl) (fun j => by simp [hitA, hF]) (fun j => by simp [hitN, hF]) (fun u => ?_)⟩, fr.setCell g2 np70 (h1.hc v _ (by simp)) _⟩
    by_cases e : u = v
    · simp [apF, e, hF]
    · simp [apF, e]
  clear h h1 fr g2 g3 hF hcv
  go_wp2
  first | go_end0 | refine bodyPost_ret (results_none rfl _ _ _) rfl ?_
  exact ⟨rfl, hend.out⟩

/-- Approve at a validator that is approved. -/
theorem approve_done {B : Nat} {l : Lay} {C A N : Nat → Int} {c : Int → Option Nat} {F : FT} (v : Int) (b : Nat) (k : Option Nat) (late : Bool) (w : World) (h : TrkC B l C A N c F w) (hcv : c v = some b) (hF : F v = some (k, true, late)) :
    Calls Trym.prog 24 #[.pointer (some ⟨l.T, 0, none⟩), .int .u32 v] w fun e w' => e = .returned (.tuple #[]) ∧
      (Trk B l C (fun j => A j + hitA F v j) (fun j => N j - hitN F v j) (apF F v) w' ∧ Fr B w w') := by
  have hend : Hid (Trk B l C (fun j => A j + hitA F v j) (fun j => N j - hitN F v j) (apF F v) w ∧ Fr B w w) := by
    refine ⟨⟨c, h.congr (fun _ => rfl) (fun j => by simp [hitA, hF]) (fun j => by simp [hitN, hF]) (fun u => ?_)⟩, Fr.refl _ _⟩
    by_cases e : u = v
    · simp [apF, e, hF]
    · simp [apF, e]
  obtain ⟨k', ap, late', g1, g2, g3⟩ := h.chk v b hcv
  rw [hF] at g1
  cases g1
  have c2 : w.cell? ⟨b, 2, none⟩ = some (.bool true) := blk_cell g2 rfl
  have hv := validator_some v b w h hcv
  clear h g2 g3 hF hcv
  have Hv : Hid (Calls Trym.prog 37 #[.pointer (some ⟨l.T, 0, none⟩), .int .u32 v] w fun e w' => e = .returned (.pointer (some ⟨b, 0, none⟩)) ∧ w' = w) := hv
  clear hv
  go_enter Trym.func24, Trym.ntmps24
  go_wp2_with fail
  refine Hv.out.mono ?_
  rintro e w' ⟨rfl, hw⟩; rw [hw]; clear hw w'
  go_wp2
  first | go_end0 | refine bodyPost_ret (results_none rfl _ _ _) rfl ?_
  exact ⟨rfl, hend.out⟩

/-- Approve at a known validator without a tranche. -/
theorem approve_free {B : Nat} {l : Lay} {C A N : Nat → Int} {c : Int → Option Nat} {F : FT} (v : Int) (b : Nat) (late : Bool) (w : World) (h : TrkC B l C A N c F w) (hcv : c v = some b) (hF : F v = some (none, false, late)) :
    Calls Trym.prog 24 #[.pointer (some ⟨l.T, 0, none⟩), .int .u32 v] w fun e w' => e = .returned (.tuple #[]) ∧
      (Trk B l C (fun j => A j + hitA F v j) (fun j => N j - hitN F v j) (apF F v) w' ∧ Fr B w w') := by
  obtain ⟨k', ap, late', g1, g2, g3⟩ := h.chk v b hcv
  rw [hF] at g1
  cases g1
  have c0 : w.cell? ⟨b, 0, none⟩ = some (.pointer none) := blk_cell g2 rfl
  have c2 : w.cell? ⟨b, 2, none⟩ = some (.bool false) := blk_cell g2 rfl
  have f2 : w.frozen? ⟨b, 2, none⟩ = false := blk_free g2
  have hend : Hid (Trk B l C (fun j => A j + hitA F v j) (fun j => N j - hitN F v j) (apF F v) (w.setCell ⟨b, 2, none⟩ (.bool true)) ∧ Fr B w (w.setCell ⟨b, 2, none⟩ (.bool true))) := by
    have b1 := heap_setCell_at w _ 2 (.bool true) _ _ g2
    refine ⟨⟨_, (h.putChk (w' := w.setCell ⟨b, 2, none⟩ (.bool true)) hcv hF (by rw [b1]; rfl) (fun b' hb' => Below.heap_setCell _ _ _ _ hb')).congr (fun _ => rfl) (fun j => by simp [hitA, hF]) (fun j => by simp [hitN, hF]) (fun u => ?_)⟩, (Fr.refl B w).setCell g2 np70 (h.hc v _ hcv) _⟩
    by_cases e : u = v
    · simp [apF, e, hF]
    · simp [apF, e]
  have hv := validator_some v b w h hcv
  clear h g2 g3 hF hcv
  have Hv : Hid (Calls Trym.prog 37 #[.pointer (some ⟨l.T, 0, none⟩), .int .u32 v] w fun e w' => e = .returned (.pointer (some ⟨b, 0, none⟩)) ∧ w' = w) := hv
  clear hv
  go_enter Trym.func24, Trym.ntmps24
  go_wp2_with fail
  refine Hv.out.mono ?_
  rintro e w' ⟨rfl, hw⟩; rw [hw]; clear hw w'
  go_wp2
  first | go_end0 | refine bodyPost_ret (results_none rfl _ _ _) rfl ?_
  exact ⟨rfl, hend.out⟩

/-- Approve at a seated validator that is not yet approved. -/
theorem approve_seat {B : Nat} {l : Lay} {C A N : Nat → Int} {c : Int → Option Nat} {F : FT} (v : Int) (b k : Nat) (late : Bool) (w : World) (h : TrkC B l C A N c F w) (hcv : c v = some b) (hF : F v = some (some k, false, late))
    (hA0 : 0 ≤ A k) (hA1 : A k ≤ 100000) (hN0 : -100000 ≤ N k) (hN1 : N k ≤ 100000) :
    Calls Trym.prog 24 #[.pointer (some ⟨l.T, 0, none⟩), .int .u32 v] w fun e w' => e = .returned (.tuple #[]) ∧
      (Trk B l C (fun j => A j + hitA F v j) (fun j => N j - hitN F v j) (apF F v) w' ∧ Fr B w w') := by
  obtain ⟨k', ap, late', g1, g2, g3⟩ := h.chk v b hcv
  rw [hF] at g1
  cases g1
  have hk := g3 k rfl
  have ht := h.tal k hk
  have hbp : b ≠ l.p k := by intro e; rw [e, ht] at g2; simp at g2
  have hpb : l.p k ≠ b := fun e => hbp e.symm
  have c0 : w.cell? ⟨b, 0, none⟩ = some (.pointer (some ⟨l.p k, 0, none⟩)) := blk_cell g2 rfl
  have c2 : w.cell? ⟨b, 2, none⟩ = some (.bool false) := blk_cell g2 rfl
  have c3 : w.cell? ⟨b, 3, none⟩ = some (.bool late) := blk_cell g2 rfl
  have f2 : w.frozen? ⟨b, 2, none⟩ = false := blk_free g2
  have t2 : w.cell? ⟨l.p k, 2, none⟩ = some (.int .i64 (A k)) := blk_cell ht rfl
  have t3 : w.cell? ⟨l.p k, 3, none⟩ = some (.int .i64 (N k)) := blk_cell ht rfl
  have ft : ∀ i, w.frozen? ⟨l.p k, i, none⟩ = false := fun i => blk_free ht
  have b1 := heap_setCell_at w _ 2 (.bool true) _ _ g2
  have h1 := h.putChk (w' := w.setCell ⟨b, 2, none⟩ (.bool true)) hcv hF (by rw [b1]; rfl) (fun b' hb' => Below.heap_setCell _ _ _ _ hb')
  have fr1 : Fr B w (w.setCell ⟨b, 2, none⟩ (.bool true)) := (Fr.refl B w).setCell g2 np70 (h.hc v _ hcv) _
  have ht1 := h1.tal k hk
  have b2 := heap_setCell_at _ _ 2 (.int .i64 (A k + 1)) _ _ ht1
  have fr2 : Fr B w ((w.setCell ⟨b, 2, none⟩ (.bool true)).setCell ⟨l.p k, 2, none⟩ (.int .i64 (A k + 1))) := fr1.setCell ht1 np62 (h1.hp k hk) _
  have hFeq : ∀ u, apF F v u = if u = v then some (some k, true, late) else F u := by
    intro u
    by_cases e : u = v
    · simp [apF, e, hF]
    · simp [apF, e]
  have hv := validator_some v b w h hcv
  have Hv : Hid (Calls Trym.prog 37 #[.pointer (some ⟨l.T, 0, none⟩), .int .u32 v] w fun e w' => e = .returned (.pointer (some ⟨b, 0, none⟩)) ∧ w' = w) := hv
  clear hv
  cases late with
  | false =>
    have hend : Hid (Trk B l C (fun j => A j + hitA F v j) (fun j => N j - hitN F v j) (apF F v) ((w.setCell ⟨b, 2, none⟩ (.bool true)).setCell ⟨l.p k, 2, none⟩ (.int .i64 (A k + 1))) ∧ Fr B w ((w.setCell ⟨b, 2, none⟩ (.bool true)).setCell ⟨l.p k, 2, none⟩ (.int .i64 (A k + 1)))) := by
      refine ⟨⟨c, (h1.putTal (C' := C) (A' := fun j => A j + hitA F v j) (N' := N) hk ?_ (fun b hb => Below.heap_setCell _ _ _ _ hb) (fun _ _ => rfl) (fun i hi => ?_) (fun _ _ => rfl)).congr (fun _ => rfl) (fun j => rfl) (fun j => by simp [hitN, hF]) hFeq⟩, fr2⟩
      · rw [b2]; simp [hitA, hF]
      · have : ¬ k = i := fun e => hi e.symm
        simp [hitA, hF, this]
    clear h g2 g3 hF hcv ht ht1 b1 b2 fr1 fr2 h1 hFeq
    obtain ⟨T, M, g, n, cap, p⟩ := l
    simp only at *
    go_enter Trym.func24, Trym.ntmps24
    go_wp2_with fail
    refine Hv.out.mono ?_
    rintro e w' ⟨rfl, hw⟩; rw [hw]; clear hw w'
    go_wp2
    first | go_end0 | refine bodyPost_ret (results_none rfl _ _ _) rfl ?_
    exact ⟨rfl, hend.out⟩
  | true =>
    have b3 := heap_setCell_at _ _ 3 (.int .i64 (N k - 1)) _ _ b2
    have hend : Hid (Trk B l C (fun j => A j + hitA F v j) (fun j => N j - hitN F v j) (apF F v) (((w.setCell ⟨b, 2, none⟩ (.bool true)).setCell ⟨l.p k, 2, none⟩ (.int .i64 (A k + 1))).setCell ⟨l.p k, 3, none⟩ (.int .i64 (N k - 1))) ∧ Fr B w (((w.setCell ⟨b, 2, none⟩ (.bool true)).setCell ⟨l.p k, 2, none⟩ (.int .i64 (A k + 1))).setCell ⟨l.p k, 3, none⟩ (.int .i64 (N k - 1)))) := by
      refine ⟨⟨c, (h1.putTal (C' := C) (A' := fun j => A j + hitA F v j) (N' := fun j => N j - hitN F v j) hk ?_ (fun b hb => by rw [Below.heap_setCell _ _ _ _ hb, Below.heap_setCell _ _ _ _ hb]) (fun _ _ => rfl) (fun i hi => ?_) (fun i hi => ?_)).congr (fun _ => rfl) (fun j => rfl) (fun j => rfl) hFeq⟩, fr2.setCell b2 np62 (h1.hp k hk) _⟩
      · rw [b3]; simp [hitA, hitN, hF]
      · have : ¬ k = i := fun e => hi e.symm
        simp [hitA, hF, this]
      · have : ¬ k = i := fun e => hi e.symm
        simp [hitN, hF, this]
    clear h g2 g3 hF hcv ht ht1 b1 b2 b3 fr1 fr2 h1 hFeq
    obtain ⟨T, M, g, n, cap, p⟩ := l
    simp only at *
    go_enter Trym.func24, Trym.ntmps24
    go_wp2_with fail
    refine Hv.out.mono ?_
    rintro e w' ⟨rfl, hw⟩; rw [hw]; clear hw w'
    go_wp2
    first | go_end0 | refine bodyPost_ret (results_none rfl _ _ _) rfl ?_
    exact ⟨rfl, hend.out⟩

theorem approve_any {B : Nat} {l : Lay} {C A N : Nat → Int} {F : FT} (v : Int) (w : World) (h : Trk B l C A N F w) (hb : ∀ k, 0 ≤ A k ∧ A k ≤ 100000 ∧ -100000 ≤ N k ∧ N k ≤ 100000) :
    Calls Trym.prog 24 #[.pointer (some ⟨l.T, 0, none⟩), .int .u32 v] w fun e w' => e = .returned (.tuple #[]) ∧
      (Trk B l C (fun j => A j + hitA F v j) (fun j => N j - hitN F v j) (apF F v) w' ∧ Fr B w w') := by
  obtain ⟨c, h⟩ := h
  cases hcv : c v with
  | none => exact approve_none v w h hcv
  | some b =>
    obtain ⟨k, ap, late, h1, _, h3⟩ := h.chk v b hcv
    cases ap with
    | true => exact approve_done v b k late w h hcv h1
    | false =>
      cases k with
      | none => exact approve_free v b late w h hcv h1
      | some k =>
        obtain ⟨q1, q2, q3, q4⟩ := hb k
        exact approve_seat v b k late w h hcv h1 q1 q2 q3 q4

end Go.Proofs.Qxb6000476aMods
