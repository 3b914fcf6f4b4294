/-
  THE WALKS of zzs5701aind and (*yamlScanner).leave.
-/
import Derived.Test.YbulkdnauDoorRows
import Derived.Test.YbulkdnauDoorBase
import Derived.Deep.LoopGhost
import Derived.Deep.QuietTactic
import Derived.BigQuiet
import Derived.BigRegion
namespace Go.Proofs.YbulkdnauDoor
open Go.RowKit

set_option maxRecDepth 100000 in
set_option maxHeartbeats 1000000 in
theorem ind_any (k : Nat) (hk : k < 19) (w : World) : Calls Ybad.prog 6 #[.int .u8 (k : Int)] w fun e w' => e = .returned (.string (ind k)) ∧ w' = w := by
  rcases (show k = 0 ∨ k = 1 ∨ k = 2 ∨ k = 3 ∨ k = 4 ∨ k = 5 ∨ k = 6 ∨ k = 7 ∨ k = 8 ∨ k = 9 ∨ k = 10 ∨ k = 11 ∨ k = 12 ∨ k = 13 ∨ k = 14 ∨ k = 15 ∨ k = 16 ∨ k = 17 ∨ k = 18 by omega) with
    rfl | rfl | rfl | rfl | rfl | rfl | rfl | rfl | rfl | rfl | rfl | rfl | rfl | rfl | rfl | rfl | rfl | rfl | rfl
  all_goals
    go_enter Ybad.func6, Ybad.ntmps6
    go_wp2
    go_ret
    exact ⟨rfl, rfl⟩

/-- The scanner's row with its entries' field turned. -/
def put8 (f : Nat → Value) (v : Value) (j : Nat) : Value := if j = 8 then v else f j

theorem put8_set (f : Nat → Value) (u v : Value) (j : Nat) : (if j = 8 then v else put8 f u j) = put8 f v j := by
  unfold put8; split <;> rfl

set_option maxRecDepth 100000 in
set_option maxHeartbeats 1000000 in
theorem leave_some (gS g n cap : Nat) (zs : Nat → Int) (f : Nat → Value) (c : Int) (w : World) (hrow : w.rowIs gS 32 11 f) (h8 : f 8 = .slice (some ⟨g, 0, none⟩) n cap) (hg : g ≠ gS) (hnc : n ≤ cap) (hn : n ≤ 1048576)
    (hz : ∀ j, j < n → w.cell? ⟨g, j, none⟩ = some (.int .i64 (zs j))) :
    Calls Ybad.prog 10 #[.pointer (some ⟨gS, 0, none⟩), .int .i64 c] w fun e w' => e = .returned (.tuple #[]) ∧ w'.rowIs gS 32 11 (put8 f (.slice (some ⟨g, 0, none⟩) (keep zs c n) cap)) ∧ Keep (fun k => k = gS) w w' := by
  go_enter Ybad.func10, Ybad.ntmps10
  go_wp2
  go_loopg [4] n (fun gh s wr => ∃ k : Nat, k ≤ gh ∧ k ≤ n ∧ keep zs c n = keep zs c k ∧ wr.rowIs gS 32 11 (put8 f (.slice (some ⟨g, 0, none⟩) k cap)) ∧ Keep (fun k => k = gS) w wr)
  case atStart => exact ⟨n, Nat.le_refl _, Nat.le_refl _, rfl, hrow.congr (fun j _ => by unfold put8; split <;> simp_all), Keep.refl _ _⟩
  case round =>
    obtain ⟨k, hgh, hk, hkeep, hr, hK⟩ := hrel
    have c8 : wr.cell? ⟨gS, 8, none⟩ = some (.slice (some ⟨g, 0, none⟩) k cap) := by rw [hr.cell (show 8 < 11 by omega)]; rfl
    have z8 := hr.frozen 8
    have HK : Hid (keep zs c n = keep zs c k) := hkeep
    clear hkeep
    cases k with
    | zero =>
      go_wp2_with fail
      go_quiet (fail)
      go_wp2
      go_end0
      refine ⟨rfl, ?_, hK.drewN _⟩
      rw [HK.out]
      exact hr
    | succ k =>
      have hc : wr.cell? ⟨g, k, none⟩ = some (.int .i64 (zs k)) := hK.cellAt (hz k (by omega)) hg
      clear hz
      by_cases hlt : c < zs k
      · go_wp2_with fail
        go_quiet (fail)
        go_wp2
        go_region
        go_wp2
        go_roundg k
        case measure => omega
        case rel =>
          have hr' : (wr.drewN (nq + 1)).rowIs gS 32 11 (put8 f (.slice (some ⟨g, 0, none⟩) (k + 1) cap)) := hr
          exact ⟨k, Nat.le_refl _, by omega, by rw [HK.out, keep, if_pos hlt], (hr'.set 8 _).congr (fun j _ => put8_set f _ _ j), (hK.drewN _).setCell gS 8 _ (.inl rfl)⟩
      · go_wp2_with fail
        go_quiet (fail)
        go_wp2
        go_end0
        refine ⟨rfl, ?_, hK.drewN _⟩
        rw [HK.out, keep, if_neg (by omega)]
        exact hr

set_option maxRecDepth 100000 in
set_option maxHeartbeats 1000000 in
theorem leave_nil (gS : Nat) (f : Nat → Value) (c : Int) (w : World) (hrow : w.rowIs gS 32 11 f) (h8 : f 8 = .slice none 0 0) :
    Calls Ybad.prog 10 #[.pointer (some ⟨gS, 0, none⟩), .int .i64 c] w fun e w' => e = .returned (.tuple #[]) ∧ ∃ q, w' = w.drewN q := by
  have c8 : w.cell? ⟨gS, 8, none⟩ = some (.slice none 0 0) := by rw [hrow.cell (show 8 < 11 by omega), h8]
  clear h8
  go_enter Ybad.func10, Ybad.ntmps10
  go_wp2
  refine wp_loop_rounds 1 ?_
  rw [rounds_succ]
  go_wp2_with fail
  go_quiet (fail)
  go_wp2
  go_end0
  exact ⟨rfl, _, rfl⟩
end Go.Proofs.YbulkdnauDoor
