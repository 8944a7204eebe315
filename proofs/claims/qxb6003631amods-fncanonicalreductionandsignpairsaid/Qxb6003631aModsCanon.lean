import Derived.Test.Qxb6003631aModsRow32
import Derived.Outline
import Derived.Deep.DeepCutAuto
namespace Go.Proofs.Qxb6003631aMods
open Go.RowKit
set_option linter.unusedVariables false

def low (y : Nat → Int) : Nat → Int := fun i => if i = 31 then y 31 % 128 else y i
def hiB (z : Nat → Int) (k : Nat) : Bool := (z 31 == 127 && decide (237 ≤ z 0)) && (List.range k).all fun i => z (1 + i) == 255
def oneF : Nat → Int := fun i => if i = 0 then 1 else 0
def mF (k : Nat) : Nat → Int := fun i => if i = 0 then 236 else if i = 31 then 127 else if 1 ≤ i ∧ i < k then 255 else 0

theorem hiB_succ (z : Nat → Int) (k : Nat) : hiB z (k + 1) = (hiB z k && (z (1 + k) == 255)) := by
  unfold hiB
  rw [List.range_succ, List.all_append]
  simp [Bool.and_assoc]

theorem wpList_build_to {P : Program} {ops : Array Oper} {rest : List Oper} {o : Oper} {a : Act} {w : World} {Q : Exit → Act → World → Prop} (hg : o.guard = none) (t : TypeId) (parts : Array (Nat × Operand)) (ho : o.op = .build t parts) (A : Array Value)
    (hA : P.built t (parts.map fun (i, x) => (i, a.eval x)).toList = some A) (h : wpList P ops Q rest (a.put o.dst (.agg A)) w) : wpList P ops Q (o :: rest) a w :=
  wpList_build hg t parts ho (by rw [hA]; rfl) (by rw [hA]; exact h)

/-- A whole row loaded under a guard that says yes. -/
theorem wpList_load_row_g {P : Program} {ops : Array Oper} {rest : List Oper} {o : Oper} {a : Act} {w : World} {Q : Exit → Act → World → Prop} (ty : TypeId) (x : Operand) (ho : o.op = .load ty x) (hw : Region.wanted o (yielded ops a.tmps) = true)
    (g : Nat) (hx : a.eval x = .pointer (some ⟨g, 0, none⟩)) (t : TypeId) (cs : Array Value) (fr : Nat × Nat) (d : TypeDesc) (hg : w.heap[g]? = some (.cells cs t fr))
    (hu : P.underlying ty = some d) (hd : (match d with | .struct _ | .array _ _ => true | _ => false) = true) (hi : (P.info? ty).map (·.size) = some cs.size)
    (h : wpList P ops Q rest (a.put o.dst (.agg cs)) w) : wpList P ops Q (o :: rest) a w :=
  wpList_step fun K hK => by rw [if_pos hw]; exact wp_load_row ty x ho g hx t cs fr d hg hu hd hi (hK _ _ h)

theorem built_one (a : Act) : Trym.prog.built 25 ((#[(0, .const (.int .u8 1))] : Array (Nat × Operand)).map fun (i, x) => (i, a.eval x)).toList = some (row32 oneF) := by kernel_rfl
theorem built_minus (a : Act) : Trym.prog.built 25 ((#[(0, .const (.int .u8 236)), (31, .const (.int .u8 127))] : Array (Nat × Operand)).map fun (i, x) => (i, a.eval x)).toList = some (row32 (mF 1)) := by kernel_rfl

theorem last1 (w : World) (o : Obj) (c : Array Value) (t : TypeId) : ((w.alloc o).alloc (.cells c t)).heap[w.heap.size + 1]? = some (.cells c t (0, 0)) := by
  have := heap_alloc_last (w.alloc o) (.cells c t)
  simpa using this
theorem set1 (w : World) (o : Obj) (c c' : Array Value) (t : TypeId) : ((w.alloc o).alloc (.cells c t)).setRow (w.heap.size + 1) c' = (w.alloc o).alloc (.cells c' t) := by
  have := World.setRow_alloc_new (w.alloc o) c c' t
  simpa using this
theorem last2 (w : World) (o o' : Obj) (c : Array Value) (t : TypeId) : (((w.alloc o).alloc o').alloc (.cells c t)).heap[w.heap.size + 1 + 1]? = some (.cells c t (0, 0)) := by
  have := last1 (w.alloc o) o' c t
  simpa using this
theorem set2 (w : World) (o o' : Obj) (c c' : Array Value) (t : TypeId) : (((w.alloc o).alloc o').alloc (.cells c t)).setRow (w.heap.size + 1 + 1) c' = ((w.alloc o).alloc o').alloc (.cells c' t) := by
  have := set1 (w.alloc o) o' c c' t
  simpa using this

/-- What 'canonical' answers. -/
def canonB (y : Nat → Int) : Bool := !hiB (low y) 30 && (y 31 / 128 == 0 || (!eq32 (low y) oneF && !eq32 (low y) (mF 31)))

set_option maxHeartbeats 2000000 in
set_option maxRecDepth 100000 in
theorem canon_any (b n cap : Nat) (y : Nat → Int) (w : World) (hn : 32 ≤ n) (hy : ∀ i, 0 ≤ y i ∧ y i ≤ 255) (hc : ∀ i, i < 32 → w.cell? ⟨b, i, none⟩ = some (.int .u8 (y i))) :
    Calls Trym.prog 10 #[.slice (some ⟨b, 0, none⟩) n cap] w fun e w' => e = .returned (.bool (canonB y)) ∧ Below w.heap.size w w' := by
  have hat : ∀ w, (Instr.arrayAt 25 (.slice (some ⟨b, 0, none⟩) n cap)).run Trym.prog w = .ok (.pointer (some ⟨b, 0, none⟩)) w := fun w => by
    have : ¬ n < 32 := by omega
    simp [Instr.arrayAt, run_underlying Trym.underlying25, this]
  have HR : Hid (w.rangeAt b 0 (row32 y).toList) := row32_range hc
  obtain ⟨m0, m1⟩ := hy 31
  have hand := and127 (y 31) m0 m1
  have g31 := row32_get y 31 (by omega)
  have hset : (row32 y).setIfInBounds 31 (.int .u8 (y 31 % 128)) = row32 (low y) := row32_set y 31 _
  have e31 := row32_get (low y) 31 (by omega)
  have e0 := row32_get (low y) 0 (by omega)
  have i0 : low y 31 = y 31 % 128 := rfl
  have i1 : low y 0 = y 0 := rfl
  have HL : Hid (∀ i, i < 32 → (row32 (low y))[i]? = some (.int .u8 (low y i))) := row32_get (low y)
  have HY : Hid (∀ i, 0 ≤ y i ∧ y i ≤ 255) := hy
  rw [i0] at e31
  rw [i1] at e0
  have hh0 : hiB (low y) 0 = (y 31 % 128 == 127 && decide (237 ≤ y 0)) := by simp [hiB, i0, i1]
  clear i0 i1 hc hy
  obtain ⟨y31, h31⟩ : ∃ x, x = y 31 := ⟨_, rfl⟩
  obtain ⟨y0, h0⟩ : ∃ x, x = y 0 := ⟨_, rfl⟩
  rw [← h31] at hand g31 hset e31 hh0 m0 m1
  rw [← h0] at e0 hh0
  obtain ⟨yb0, yb1⟩ := HY.out 0
  rw [← h0] at yb0 yb1
  have H31 : Hid (y31 = y 31) := h31
  have HH0 : Hid (hiB (low y) 0 = (y31 % 128 == 127 && decide (237 ≤ y0))) := hh0
  clear h31 h0 hh0
  have way : ∃ hb : Bool, hiB (low y) 0 = hb ∧ ((y31 % 128 == 127) = true ∧ (237 ≤ y0) ∧ hb = true ∨ (y31 % 128 == 127) = true ∧ y0 < 237 ∧ hb = false ∨ (y31 % 128 == 127) = false ∧ hb = false) := by
    rw [HH0.out]
    refine ⟨_, rfl, ?_⟩
    cases h1 : (y31 % 128 == 127)
    · exact .inr (.inr ⟨rfl, by simp⟩)
    · by_cases h2 : 237 ≤ y0
      · exact .inl ⟨rfl, h2, by simp [h2]⟩
      · exact .inr (.inl ⟨rfl, by omega, by simp [h2]⟩)
  obtain ⟨hb, hhb, way⟩ := way
  have HHB : Hid (hiB (low y) 0 = hb) := hhb
  have HW := (show Hid _ from way)
  clear hhb way HH0
  go_enter Trym.func10, Trym.ntmps10
  go_upto_region 4 with (first
    | (refine wpList_load_mid rfl 25 (.tmp 12) rfl b 0 rfl (row32 y).toList (.array 32 5) HR.out Trym.underlying25 rfl (by rw [info25, Array.length_toList, row32_size]) ?_; simp only [Array.toArray_toList])
    | (refine wpList_store_row rfl 25 (.tmp 3) (.tmp 13) rfl w.heap.size (row32 y) rfl rfl 25 _ (heap_alloc_last w _) (row32_i y) (by rw [row32_size]; rfl) (row32_one y) ?_; rw [World.setRow_alloc_new]))
  go_cut [5] (fun x wx => x = .bool hb ∧ wx = w.alloc (.cells (row32 (low y)) 25))
  case first =>
    rcases HW.out with ⟨h1, h2, rfl⟩ | ⟨h1, h2, rfl⟩ | ⟨h1, rfl⟩
    · go_wp2
      go_meet
      exact ⟨by simp, rfl⟩
    · go_wp2
      go_meet
      exact ⟨by simp; omega, rfl⟩
    · go_wp2
      go_meet
      exact ⟨rfl, rfl⟩
  case rest =>
    obtain ⟨rfl, rfl⟩ := hcut
    clear HW hat hand g31 hset e31 e0 HR
    rw [← HHB.out]
    obtain ⟨A1, hA1⟩ : ∃ A1, A1 = row32 (low y) := ⟨_, rfl⟩
    rw [← hA1] at HL ⊢
    have HA1 : Hid (A1 = row32 (low y)) := hA1
    clear hA1 HHB
    go_wp2
    go_loop [5, 31] (fun h i => ∃ k : Nat, k ≤ 30 ∧ i = .int .i64 k ∧ h = .bool (hiB (low y) k)) (fun _ i => 30 - (intOf i).toNat)
    case atStart => exact ⟨0, Nat.zero_le _, rfl, rfl⟩
    case round =>
      obtain ⟨k, hk, rfl, rfl⟩ := hrel
      by_cases hlt : k < 30
      · have hcell := HL.out (1 + k) (by omega)
        have HS : Hid (hiB (low y) (k + 1) = (hiB (low y) k && (low y (1 + k) == 255))) := hiB_succ (low y) k
        obtain ⟨c, hc⟩ : ∃ c, c = low y (1 + k) := ⟨_, rfl⟩
        rw [← hc] at hcell HS
        obtain ⟨hv, hhv⟩ : ∃ hv, hv = hiB (low y) k := ⟨_, rfl⟩
        rw [← hhv] at HS ⊢
        clear hc hhv
        cases hv with
        | true =>
          go_wp2
          go_round
          case rel => exact ⟨k + 1, by omega, by go_num, by rw [HS.out]; simp⟩
          case measure => simp [intOf]; omega
        | false =>
          go_wp2
          go_round
          case rel => exact ⟨k + 1, by omega, by go_num, by rw [HS.out]; simp⟩
          case measure => simp [intOf]; omega
      · obtain rfl : k = 30 := by omega
        cases hh : hiB (low y) 30 with
        | true =>
          have HC : Hid (canonB y = false) := by
            show _ = _
            simp [canonB, hh]
          clear hh
          go_wp2
          go_ret
          exact ⟨by rw [HC.out]; rfl, (Below.refl _ _).alloc (Nat.le_refl _) _⟩
        | false =>
          have HC : Hid (canonB y = (y31 / 128 == 0 || (!eq32 (low y) oneF && !eq32 (low y) (mF 31)))) := by
            show _ = _
            rw [H31.out]
            simp [canonB, hh]
          clear hh
          obtain ⟨O, hO⟩ : ∃ O, O = row32 oneF := ⟨_, rfl⟩
          obtain ⟨M, hM⟩ : ∃ M, M = row32 (mF 1) := ⟨_, rfl⟩
          have HO : Hid (O = row32 oneF) := hO
          have HM : Hid (M = row32 (mF 1)) := hM
          have ZO : Hid (O.size = 32 ∧ O.all (·.oneCell') = true) := by rw [hO]; exact ⟨row32_size _, row32_one _⟩
          have ZM : Hid (M.size = 32 ∧ M.all (·.oneCell') = true) := by rw [hM]; exact ⟨row32_size _, row32_one _⟩
          clear hO hM
          go_wp2_with (first
            | (refine wpList_build_to rfl 25 #[(0, .const (.int .u8 1))] rfl (row32 oneF) (built_one _) ?_; rw [← HO.out])
            | (refine wpList_build_to rfl 25 #[(0, .const (.int .u8 236)), (31, .const (.int .u8 127))] rfl (row32 (mF 1)) (built_minus _) ?_; rw [← HM.out])
            | (refine wpList_store_row rfl 25 (.tmp 8) (.tmp 42) rfl (w.heap.size + 1) O rfl rfl 25 _ (last1 w _ _ _) (by rw [info25, ZO.out.1]) (by rw [ZO.out.1]; rfl) ZO.out.2 ?_; rw [set1])
            | (refine wpList_store_row rfl 25 (.tmp 9) (.tmp 43) rfl (w.heap.size + 1 + 1) M rfl rfl 25 _ (last2 w _ _ _ _) (by rw [info25, ZM.out.1]) (by rw [ZM.out.1]; rfl) ZM.out.2 ?_; rw [set2]))
          rw [HM.out]
          clear HM ZM HL H31 HY m0 m1 yb0 yb1
          go_loopw [10] (fun i wr => ∃ k : Nat, 1 ≤ k ∧ k ≤ 31 ∧ i = .int .i64 k ∧ wr = ((w.alloc (.cells A1 25)).alloc (.cells O 25)).alloc (.cells (row32 (mF k)) 25)) (fun i _ => 31 - (intOf i).toNat)
          case atStart => exact ⟨1, by omega, by omega, rfl, rfl⟩
          case round =>
            obtain ⟨k, hk1, hk2, rfl, rfl⟩ := hrel
            by_cases hlt : k < 31
            · have hg := row32_get (mF k) k (by omega)
              have HS : Hid ((row32 (mF k)).setIfInBounds k (.int .u8 255) = row32 (mF (k + 1))) := by
                show _ = _
                rw [row32_set]
                apply row32_congr
                intro i hi
                unfold mF
                by_cases e : i = k
                · subst e
                  have h1 : ¬ i = 0 := by omega
                  have h2 : ¬ i = 31 := by omega
                  simp [h1, h2, hk1]
                · have : (1 ≤ i ∧ i < k + 1) = (1 ≤ i ∧ i < k) := by simp; omega
                  simp [e, this]
              obtain ⟨Mk, hMk⟩ : ∃ Mk, Mk = row32 (mF k) := ⟨_, rfl⟩
              rw [← hMk] at hg HS ⊢
              clear hMk
              go_wp2
              go_roundw
              case rel => exact ⟨k + 1, by omega, by omega, by go_num, by rw [HS.out]⟩
              case measure => simp [intOf]; omega
            · obtain rfl : k = 31 := by omega
              obtain ⟨M3, hM3⟩ : ∃ M3, M3 = row32 (mF 31) := ⟨_, rfl⟩
              rw [← hM3]
              have HM3 : Hid (M3 = row32 (mF 31)) := hM3
              clear hM3
              have B3 : Hid (Below w.heap.size w (((w.alloc (.cells A1 25)).alloc (.cells O 25)).alloc (.cells M3 25))) :=
                (((Below.refl _ _).alloc (Nat.le_refl _) _).alloc (by simp) _).alloc (by simp; omega) _
              by_cases hsg : (y31 / 128 == 0) = true
              · have HCT : Hid (canonB y = true) := by
                  show _ = _
                  rw [HC.out, hsg]; rfl
                go_wp2
                go_ret
                exact ⟨by rw [HCT.out]; rfl, B3.out⟩
              · have hsg' : (y31 / 128 == 0) = false := by simpa using hsg
                clear hsg
                obtain ⟨W, hW⟩ : ∃ W, W = ((w.alloc (.cells A1 25)).alloc (.cells O 25)).alloc (.cells M3 25) := ⟨_, rfl⟩
                have q0 : Hid (W.heap[w.heap.size]? = some (.cells A1 25 (0, 0))) := by
                  show _ = _
                  rw [hW, Below.heap_alloc _ _ _ (by simp; omega), Below.heap_alloc _ _ _ (by simp)]
                  exact heap_alloc_last _ _
                have q1 : Hid (W.heap[w.heap.size + 1]? = some (.cells O 25 (0, 0))) := by
                  show _ = _
                  rw [hW, Below.heap_alloc _ _ _ (by simp)]
                  exact last1 _ _ _ _
                have q2 : Hid (W.heap[w.heap.size + 1 + 1]? = some (.cells M3 25 (0, 0))) := by
                  show _ = _
                  rw [hW]
                  exact last2 _ _ _ _ _
                have zA : Hid ((Trym.prog.info? 25).map (·.size) = some A1.size ∧ (Trym.prog.info? 25).map (·.size) = some O.size ∧ (Trym.prog.info? 25).map (·.size) = some M3.size) := by
                  rw [HA1.out, HO.out, HM3.out]; exact ⟨row32_i _, row32_i _, row32_i _⟩
                have n1 : ∀ w, (binOp .neq 25 (.agg A1) (.agg O)).run Trym.prog w = .ok (.bool (!eq32 (low y) oneF)) w := by
                  rw [HA1.out, HO.out]; exact run_neq32 _ _
                have n2 : ∀ w, (binOp .neq 25 (.agg A1) (.agg M3)).run Trym.prog w = .ok (.bool (!eq32 (low y) (mF 31))) w := by
                  rw [HA1.out, HM3.out]; exact run_neq32 _ _
                rw [← hW] at B3 ⊢
                have HC2 : Hid (canonB y = (!eq32 (low y) oneF && !eq32 (low y) (mF 31))) := by
                  show _ = _
                  rw [HC.out, hsg']; rfl
                clear hW HA1 HO HM3 HC ZO
                obtain ⟨x1, hx1⟩ : ∃ x, x = (!eq32 (low y) oneF) := ⟨_, rfl⟩
                obtain ⟨x2, hx2⟩ : ∃ x, x = (!eq32 (low y) (mF 31)) := ⟨_, rfl⟩
                rw [← hx1] at n1 HC2
                rw [← hx2] at n2 HC2
                clear hx1 hx2
                cases x1 with
                | false =>
                  go_wp2_with (first
                    | (refine wpList_load_row_g 25 (.tmp 3) rfl (by rfl) w.heap.size rfl 25 A1 (0, 0) (.array 32 5) q0.out Trym.underlying25 rfl zA.out.1 ?_)
                    | (refine wpList_load_row_g 25 (.tmp 8) rfl (by rfl) (w.heap.size + 1) rfl 25 O (0, 0) (.array 32 5) q1.out Trym.underlying25 rfl zA.out.2.1 ?_))
                  go_ret
                  exact ⟨by rw [HC2.out]; rfl, B3.out⟩
                | true =>
                  go_wp2_with (first
                    | (refine wpList_load_row_g 25 (.tmp 3) rfl (by rfl) w.heap.size rfl 25 A1 (0, 0) (.array 32 5) q0.out Trym.underlying25 rfl zA.out.1 ?_)
                    | (refine wpList_load_row_g 25 (.tmp 8) rfl (by rfl) (w.heap.size + 1) rfl 25 O (0, 0) (.array 32 5) q1.out Trym.underlying25 rfl zA.out.2.1 ?_)
                    | (refine wpList_load_row_g 25 (.tmp 9) rfl (by rfl) (w.heap.size + 1 + 1) rfl 25 M3 (0, 0) (.array 32 5) q2.out Trym.underlying25 rfl zA.out.2.2 ?_))
                  go_ret
                  exact ⟨by rw [HC2.out]; rfl, B3.out⟩

end Go.Proofs.Qxb6003631aMods
