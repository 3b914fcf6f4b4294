/-
  THE WALKS of slices.Clone and slices.Equal at []int.
-/
import Derived.Test.YbulkdnauDoorEnter
namespace Go.Proofs.YbulkdnauDoor
open Go.RowKit

theorem q22 : ∀ (w : World) (a : Option Addr) (n c n' c' : Nat), (binOp .eql 22 (.slice a n c) (.slice none n' c')).run Ybad.prog w = .ok (.bool a.isNone) w := fun w a n c n' c' => Lib.run_eql_slice_nil w 22 3 a n c n' c' Ybad.underlying22

set_option maxRecDepth 100000 in
set_option maxHeartbeats 1000000 in
theorem clone_some (x : Addr) (n c : Nat) (zs : Nat → Int) (w : World) (hn : n ≤ 1048576) (hc : ∀ j, j < n → w.cell? (x.add j) = some (.int .i64 (zs j))) :
    Calls Ybad.prog 4 #[.slice (some x) n c] w fun e w' => ∃ v', e = .returned v' ∧ w'.ownsRow w.heap.size 3 1 v' n (ints zs n) ∧ Below w.heap.size w w' := by
  obtain ⟨i0, hi, hz0, hz1, hz2⟩ := info_parts Ybad.info3
  have q := q22
  have HC : Hid (∀ j, j < n → w.cell? (x.add j) = some (.int .i64 (zs j))) := hc
  clear hc
  go_enter Ybad.func4, Ybad.ntmps4
  go_wp2_with (at_builtin; refine wpList_append_own _ rfl _ _ 22 rfl w.heap.size 3 i0 (.int .i64 0) 1 8 Ybad.underlying22 hi hz0 hz1 hz2 rfl (by decide) _ _ _ rfl (World.ownsRow_made w #[] 0 (Nat.le_refl _) (Nat.zero_le _) rfl) x n c (ints zs n) rfl ?c1 ?c2 ?c3 ?c4 ?c5 ?c6 ?cw)
  case c1 => simp [ints_length]
  case c2 =>
    intro j u hj
    have hjn : j < n := by have := (List.getElem?_eq_some_iff.1 hj).1; simpa [ints_length] using this
    rw [ints_at' _ _ _ hjn] at hj
    rw [← hj]
    exact cell_later ((Below.refl w.heap.size w).alloc (Nat.le_refl _) _) (HC.out j hjn)
  case c3 =>
    intro u hu
    obtain ⟨j, _, rfl⟩ := List.mem_map.1 hu
    rfl
  case c4 => unfold maxLen; omega
  case c5 => omega
  case c6 => simp
  case cw =>
    intro v' w1 hown hgrow hnil
    have hb : Below w.heap.size w w1 := ((Below.refl _ w).alloc (Nat.le_refl _) _).grown hgrow (by simp) (by intro k hk; simp [Value.ownBlock] at hk; omega)
    clear hgrow
    go_wp2
    go_ret
    exact ⟨v', rfl, by simpa using hown, hb⟩

set_option maxRecDepth 100000 in
set_option maxHeartbeats 1000000 in
theorem clone_nil (w : World) : Calls Ybad.prog 4 #[.slice none 0 0] w fun e w' => e = .returned (.slice none 0 0) ∧ w' = w := by
  have q := q22
  go_enter Ybad.func4, Ybad.ntmps4
  go_wp2
  go_ret
  exact ⟨rfl, rfl⟩

set_option maxRecDepth 100000 in
set_option maxHeartbeats 1000000 in
theorem equal_some (b1 o1 b2 o2 n c1 c2 : Nat) (zs : Nat → Int) (w : World) (hn : n ≤ 1048577) (h1 : ∀ j, j < n → w.cell? ⟨b1, o1 + j, none⟩ = some (.int .i64 (zs j))) (h2 : ∀ j, j < n → w.cell? ⟨b2, o2 + j, none⟩ = some (.int .i64 (zs j))) :
    Calls Ybad.prog 7 #[.slice (some ⟨b1, o1, none⟩) n c1, .slice (some ⟨b2, o2, none⟩) n c2] w fun e w' => e = .returned (.bool true) ∧ ∃ q, w' = w.drewN q := by
  go_enter Ybad.func7, Ybad.ntmps7
  go_wp2
  go_loopw [13] (fun i wr => ∃ k q : Nat, k ≤ n ∧ i = .int .i64 (k : Int) ∧ wr = w.drewN q) (fun i _ => n - (intOf i).toNat)
  case atStart => exact ⟨0, 0, Nat.zero_le _, rfl, rfl⟩
  case round =>
    obtain ⟨k, q, hk, rfl, rfl⟩ := hrel
    by_cases hlt : k < n
    · have g1 := h1 k hlt
      have g2 := h2 k hlt
      have hk0 : (0 : Int) ≤ (k : Int) := by omega
      have hk1 : (k : Int) < (n : Int) := by omega
      clear h1 h2
      go_wp2
      go_quiet (fail)
      go_wp2
      go_roundw
      case rel => exact ⟨k + 1, _, by omega, by go_num, rfl⟩
      case measure => simp [intOf]; omega
    · go_wp2
      go_ret
      exact ⟨rfl, _, rfl⟩

set_option maxRecDepth 100000 in
set_option maxHeartbeats 1000000 in
theorem equal_none (a1 a2 : Option Addr) (c1 c2 : Nat) (w : World) : Calls Ybad.prog 7 #[.slice a1 0 c1, .slice a2 0 c2] w fun e w' => e = .returned (.bool true) ∧ ∃ q, w' = w.drewN q := by
  go_enter Ybad.func7, Ybad.ntmps7
  go_wp2
  refine wp_loop_rounds 1 ?_
  rw [rounds_succ]
  go_wp2
  go_ret
  exact ⟨rfl, 0, rfl⟩
end Go.Proofs.YbulkdnauDoor
