/-
  THE WALK of btree.LawS5699AWhole: no key.
-/
import Derived.Test.YbulkdmzsMid
namespace Go.Proofs.Ybulkdmzs
open Go.RowKit

theorem ents0_branch_c (w : World) : ((w.alloc (.cells #[.bool false, .slice (some ⟨w.heap.size + 1, 0, none⟩) 0 0, .slice none 0 0, .slice none 0 0] 31)).alloc (.cells (madeCells #[.slice none 0 0, .pointer none] 0) 34)).cell? ⟨w.heap.size, 0, none⟩ = some (.bool false) ∧
    ((w.alloc (.cells #[.bool false, .slice (some ⟨w.heap.size + 1, 0, none⟩) 0 0, .slice none 0 0, .slice none 0 0] 31)).alloc (.cells (madeCells #[.slice none 0 0, .pointer none] 0) 34)).cell? ⟨w.heap.size, 1, none⟩ = some (.slice (some ⟨w.heap.size + 1, 0, none⟩) 0 0) := ⟨by simp [go_sem], by simp [go_sem]⟩
theorem ents0_branch (w : World) : Ents ((w.alloc (.cells #[.bool false, .slice (some ⟨w.heap.size + 1, 0, none⟩) 0 0, .slice none 0 0, .slice none 0 0] 31)).alloc (.cells (madeCells #[.slice none 0 0, .pointer none] 0) 34)) w.heap.size false 0 (fun _ => 0) (fun _ => none) (fun _ => 0) :=
  ⟨w.heap.size + 1, (ents0_branch_c w).1, (ents0_branch_c w).2, fun k hk => absurd hk (Nat.not_lt_zero _), fun e => by cases e⟩
theorem ents0_branch_b (w : World) : Below w.heap.size w ((w.alloc (.cells #[.bool false, .slice (some ⟨w.heap.size + 1, 0, none⟩) 0 0, .slice none 0 0, .slice none 0 0] 31)).alloc (.cells (madeCells #[.slice none 0 0, .pointer none] 0) 34)) := below2 w _ _
theorem ents0_leaf_c (w : World) : (((w.alloc (.cells #[.bool true, .slice (some ⟨w.heap.size + 1, 0, none⟩) 0 0, .slice (some ⟨w.heap.size + 2, 0, none⟩) 0 0, .slice none 0 0] 31)).alloc (.cells (madeCells #[.slice none 0 0, .pointer none] 0) 34)).alloc (.cells (madeCells #[.slice none 0 0] 0) 24)).cell? ⟨w.heap.size, 0, none⟩ = some (.bool true) ∧
    (((w.alloc (.cells #[.bool true, .slice (some ⟨w.heap.size + 1, 0, none⟩) 0 0, .slice (some ⟨w.heap.size + 2, 0, none⟩) 0 0, .slice none 0 0] 31)).alloc (.cells (madeCells #[.slice none 0 0, .pointer none] 0) 34)).alloc (.cells (madeCells #[.slice none 0 0] 0) 24)).cell? ⟨w.heap.size, 1, none⟩ = some (.slice (some ⟨w.heap.size + 1, 0, none⟩) 0 0) := ⟨by simp [go_sem], by simp [go_sem]⟩
theorem ents0_leaf (w : World) : Ents (((w.alloc (.cells #[.bool true, .slice (some ⟨w.heap.size + 1, 0, none⟩) 0 0, .slice (some ⟨w.heap.size + 2, 0, none⟩) 0 0, .slice none 0 0] 31)).alloc (.cells (madeCells #[.slice none 0 0, .pointer none] 0) 34)).alloc (.cells (madeCells #[.slice none 0 0] 0) 24)) w.heap.size true 0 (fun _ => 0) (fun _ => none) (fun _ => 0) :=
  ⟨w.heap.size + 1, (ents0_leaf_c w).1, (ents0_leaf_c w).2, fun k hk => absurd hk (Nat.not_lt_zero _), fun _ => ⟨w.heap.size + 2, by simp [go_sem], fun k hk => absurd hk (Nat.not_lt_zero _)⟩⟩
theorem ents0_leaf_b (w : World) : Below w.heap.size w (((w.alloc (.cells #[.bool true, .slice (some ⟨w.heap.size + 1, 0, none⟩) 0 0, .slice (some ⟨w.heap.size + 2, 0, none⟩) 0 0, .slice none 0 0] 31)).alloc (.cells (madeCells #[.slice none 0 0, .pointer none] 0) 34)).alloc (.cells (madeCells #[.slice none 0 0] 0) 24)) := below3 w _ _ _

set_option maxRecDepth 100000 in
set_option maxHeartbeats 4000000 in
theorem law_0v_branch (ka : Option Addr) (kc vb vo M vc : Nat) (VA : Nat → Option Addr) (VL VC : Nat → Nat) (w : World) (hM : M * 24 ≤ 140737488351232) (v0 : ∀ j, j < M → w.cell? ⟨vb, vo + j, none⟩ = some (.slice (VA j) (VL j) (VC j))) (hvl : ∀ j, j < M → VL j ≤ 9223372036854775807) :
    Calls Yba.prog 3 #[.bool false, .slice ka 0 kc, .slice (some ⟨vb, vo, none⟩) M vc] w fun e w' => e = .returned (.bool true) ∧ Below w.heap.size w w' := by
  have hmk : ∀ w : World, (Instr.makeSlice 28 (.int .i64 0) (.int .i64 0)).run Yba.prog w = .ok (.slice (some ⟨w.heap.size, 0, none⟩) 0 0) (w.alloc (.cells (madeCells #[.slice none 0 0, .pointer none] 0) 34)) := make_keys 0 (by omega)
  have hmv : ∀ w : World, (Instr.makeSlice 23 (.int .i64 0) (.int .i64 0)).run Yba.prog w = .ok (.slice (some ⟨w.heap.size, 0, none⟩) 0 0) (w.alloc (.cells (madeCells #[.slice none 0 0] 0) 24)) := fun w => run_make_row' (P := Yba.prog) 23 24 (.slice none 0 0) 24 Yba.underlying23 Yba.info24 rfl .i64 .i64 0 (by omega) (by omega) w
  go_enter Yba.func3, Yba.ntmps3
  go_wp2
  refine wp_loop_rounds 1 ?_
  rw [rounds_succ]
  go_wp2
  go_loop [7, 39] (fun t i => ∃ k : Nat, ∃ x : Int, k ≤ M ∧ i = .int .i64 (k : Int) ∧ t = .int .i64 x) (fun _ i => M - (intOf i).toNat)
  case atStart => exact ⟨0, _, Nat.zero_le _, rfl, rfl⟩
  case round =>
    obtain ⟨k, x, hk, rfl, rfl⟩ := hrel
    by_cases hlt : k < M
    · have c0 := v0 k hlt
      have hl := hvl k hlt
      go_wp2
      go_round
      case rel => exact ⟨k + 1, _, by omega, by go_num, rfl⟩
      case measure => simp [intOf]; omega
    · by_cases hx : 1048576 < x
      · go_wp2
        go_ret
        exact ⟨rfl, Below.refl _ _⟩
      · go_wp2
        refine wp_loop_rounds 1 ?_
        rw [rounds_succ]
        go_wp2_with fail
        refine (size_any w.heap.size false 0 (fun _ => 0) (fun _ => none) (fun _ => 0) _ (by omega) (ents0_branch w)).mono ?_
        rintro e w2 ⟨y, rfl, HY, hb2⟩
        obtain rfl : y = 10 := HY.out.trans (base_false _).symm
        have q0 := cell_later hb2 (ents0_branch_c w).1
        have q1 := cell_later hb2 (ents0_branch_c w).2
        clear HY
        go_wp2
        go_ret
        exact ⟨rfl, (ents0_branch_b w).trans (hb2.mono (ents0_branch_b w).size)⟩

set_option maxRecDepth 100000 in
set_option maxHeartbeats 4000000 in
theorem law_00_branch (ka : Option Addr) (kc vc : Nat) (va : Option Addr) (w : World) :
    Calls Yba.prog 3 #[.bool false, .slice ka 0 kc, .slice va 0 vc] w fun e w' => e = .returned (.bool true) ∧ Below w.heap.size w w' := by
  have hmk : ∀ w : World, (Instr.makeSlice 28 (.int .i64 0) (.int .i64 0)).run Yba.prog w = .ok (.slice (some ⟨w.heap.size, 0, none⟩) 0 0) (w.alloc (.cells (madeCells #[.slice none 0 0, .pointer none] 0) 34)) := make_keys 0 (by omega)
  have hmv : ∀ w : World, (Instr.makeSlice 23 (.int .i64 0) (.int .i64 0)).run Yba.prog w = .ok (.slice (some ⟨w.heap.size, 0, none⟩) 0 0) (w.alloc (.cells (madeCells #[.slice none 0 0] 0) 24)) := fun w => run_make_row' (P := Yba.prog) 23 24 (.slice none 0 0) 24 Yba.underlying23 Yba.info24 rfl .i64 .i64 0 (by omega) (by omega) w
  go_enter Yba.func3, Yba.ntmps3
  go_wp2
  refine wp_loop_rounds 1 ?_
  rw [rounds_succ]
  go_wp2
  refine wp_loop_rounds 1 ?_
  rw [rounds_succ]
  go_wp2
  refine wp_loop_rounds 1 ?_
  rw [rounds_succ]
  go_wp2_with fail
  refine (size_any w.heap.size false 0 (fun _ => 0) (fun _ => none) (fun _ => 0) _ (by omega) (ents0_branch w)).mono ?_
  rintro e w2 ⟨y, rfl, HY, hb2⟩
  obtain rfl : y = 10 := HY.out.trans (base_false _).symm
  have q0 := cell_later hb2 (ents0_branch_c w).1
  have q1 := cell_later hb2 (ents0_branch_c w).2
  clear HY
  go_wp2
  go_ret
  exact ⟨rfl, (ents0_branch_b w).trans (hb2.mono (ents0_branch_b w).size)⟩

set_option maxRecDepth 100000 in
set_option maxHeartbeats 4000000 in
theorem law_0v_leaf (ka : Option Addr) (kc vb vo M vc : Nat) (VA : Nat → Option Addr) (VL VC : Nat → Nat) (w : World) (hM : M * 24 ≤ 140737488351232) (v0 : ∀ j, j < M → w.cell? ⟨vb, vo + j, none⟩ = some (.slice (VA j) (VL j) (VC j))) (hvl : ∀ j, j < M → VL j ≤ 9223372036854775807) :
    Calls Yba.prog 3 #[.bool true, .slice ka 0 kc, .slice (some ⟨vb, vo, none⟩) M vc] w fun e w' => e = .returned (.bool true) ∧ Below w.heap.size w w' := by
  have hmk : ∀ w : World, (Instr.makeSlice 28 (.int .i64 0) (.int .i64 0)).run Yba.prog w = .ok (.slice (some ⟨w.heap.size, 0, none⟩) 0 0) (w.alloc (.cells (madeCells #[.slice none 0 0, .pointer none] 0) 34)) := make_keys 0 (by omega)
  have hmv : ∀ w : World, (Instr.makeSlice 23 (.int .i64 0) (.int .i64 0)).run Yba.prog w = .ok (.slice (some ⟨w.heap.size, 0, none⟩) 0 0) (w.alloc (.cells (madeCells #[.slice none 0 0] 0) 24)) := fun w => run_make_row' (P := Yba.prog) 23 24 (.slice none 0 0) 24 Yba.underlying23 Yba.info24 rfl .i64 .i64 0 (by omega) (by omega) w
  go_enter Yba.func3, Yba.ntmps3
  go_wp2
  refine wp_loop_rounds 1 ?_
  rw [rounds_succ]
  go_wp2
  go_loop [7, 39] (fun t i => ∃ k : Nat, ∃ x : Int, k ≤ M ∧ i = .int .i64 (k : Int) ∧ t = .int .i64 x) (fun _ i => M - (intOf i).toNat)
  case atStart => exact ⟨0, _, Nat.zero_le _, rfl, rfl⟩
  case round =>
    obtain ⟨k, x, hk, rfl, rfl⟩ := hrel
    by_cases hlt : k < M
    · have c0 := v0 k hlt
      have hl := hvl k hlt
      go_wp2
      go_round
      case rel => exact ⟨k + 1, _, by omega, by go_num, rfl⟩
      case measure => simp [intOf]; omega
    · by_cases hx : 1048576 < x
      · go_wp2
        go_ret
        exact ⟨rfl, Below.refl _ _⟩
      · go_wp2
        refine wp_loop_rounds 1 ?_
        rw [rounds_succ]
        go_wp2_with fail
        refine (size_any w.heap.size true 0 (fun _ => 0) (fun _ => none) (fun _ => 0) _ (by omega) (ents0_leaf w)).mono ?_
        rintro e w2 ⟨y, rfl, HY, hb2⟩
        obtain rfl : y = 3 := HY.out.trans (base_true _).symm
        have q0 := cell_later hb2 (ents0_leaf_c w).1
        have q1 := cell_later hb2 (ents0_leaf_c w).2
        clear HY
        go_wp2
        go_ret
        exact ⟨rfl, (ents0_leaf_b w).trans (hb2.mono (ents0_leaf_b w).size)⟩

set_option maxRecDepth 100000 in
set_option maxHeartbeats 4000000 in
theorem law_00_leaf (ka : Option Addr) (kc vc : Nat) (va : Option Addr) (w : World) :
    Calls Yba.prog 3 #[.bool true, .slice ka 0 kc, .slice va 0 vc] w fun e w' => e = .returned (.bool true) ∧ Below w.heap.size w w' := by
  have hmk : ∀ w : World, (Instr.makeSlice 28 (.int .i64 0) (.int .i64 0)).run Yba.prog w = .ok (.slice (some ⟨w.heap.size, 0, none⟩) 0 0) (w.alloc (.cells (madeCells #[.slice none 0 0, .pointer none] 0) 34)) := make_keys 0 (by omega)
  have hmv : ∀ w : World, (Instr.makeSlice 23 (.int .i64 0) (.int .i64 0)).run Yba.prog w = .ok (.slice (some ⟨w.heap.size, 0, none⟩) 0 0) (w.alloc (.cells (madeCells #[.slice none 0 0] 0) 24)) := fun w => run_make_row' (P := Yba.prog) 23 24 (.slice none 0 0) 24 Yba.underlying23 Yba.info24 rfl .i64 .i64 0 (by omega) (by omega) w
  go_enter Yba.func3, Yba.ntmps3
  go_wp2
  refine wp_loop_rounds 1 ?_
  rw [rounds_succ]
  go_wp2
  refine wp_loop_rounds 1 ?_
  rw [rounds_succ]
  go_wp2
  refine wp_loop_rounds 1 ?_
  rw [rounds_succ]
  go_wp2_with fail
  refine (size_any w.heap.size true 0 (fun _ => 0) (fun _ => none) (fun _ => 0) _ (by omega) (ents0_leaf w)).mono ?_
  rintro e w2 ⟨y, rfl, HY, hb2⟩
  obtain rfl : y = 3 := HY.out.trans (base_true _).symm
  have q0 := cell_later hb2 (ents0_leaf_c w).1
  have q1 := cell_later hb2 (ents0_leaf_c w).2
  clear HY
  go_wp2
  go_ret
  exact ⟨rfl, (ents0_leaf_b w).trans (hb2.mono (ents0_leaf_b w).size)⟩
end Go.Proofs.Ybulkdmzs
