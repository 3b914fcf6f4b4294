/-
  THE WALK of (fenwick).add.
-/
import Derived.Test.YbulkdmyqRows
import Derived.Test.YbulkdmyqFen
import Derived.WalkKit
import Derived.WalkSpells
import Derived.WalkLawsBesides
import Derived.Deep.OwnRows
namespace Go.Proofs.Ybulkdmyq
open Go.RowKit Fen

/-- What the tree's cells hold when the chain has come to k. -/
def upTo (f : Nat → Int) (q : Nat) (v : Int) (k : Nat) (j : Nat) : Int := if j < k ∧ cov q j = true then wrap64 (f j + v) else f j

theorem upTo_start (f : Nat → Int) (q : Nat) (v : Int) (j : Nat) : upTo f q v q j = f j := by
  unfold upTo
  rw [if_neg]
  rintro ⟨h1, h2⟩
  simp only [cov, decide_eq_true_eq] at h2
  omega
theorem upTo_at (f : Nat → Int) (q : Nat) (v : Int) (k : Nat) : upTo f q v k k = f k := by
  unfold upTo; rw [if_neg (by omega)]
theorem upTo_end (f : Nat → Int) (q : Nat) (v : Int) (k j : Nat) (h : j < k) : upTo f q v k j = if cov q j = true then wrap64 (f j + v) else f j := by
  unfold upTo; simp [h]
/-- A round. -/
theorem upTo_step (f : Nat → Int) (q : Nat) (v : Int) (k n : Nat) (hk : 0 < k) (hkn : k < n) (hn : n < 2 ^ 64) (hc : ∀ j, k ≤ j → j < n → cov q j = cov k j) (j : Nat) (hj : j < n) :
    (if j = k then Value.int .i64 (wrap64 (f k + v)) else Value.int .i64 (upTo f q v k j)) = Value.int .i64 (upTo f q v (k + low k) j) := by
  have hb := low_bd k hk (by omega)
  by_cases e : j = k
  · subst e
    rw [if_pos rfl, upTo, if_pos ⟨by omega, by rw [hc j (by omega) hj]; exact cov_self j hk (by omega)⟩]
  · rw [if_neg e]
    unfold upTo
    by_cases h1 : j < k
    · by_cases h2 : cov q j = true
      · rw [if_pos ⟨h1, h2⟩, if_pos ⟨by omega, h2⟩]
      · rw [if_neg (fun h => h2 h.2), if_neg (fun h => h2 h.2)]
    · rw [if_neg (fun h => h1 h.1), if_neg]
      rintro ⟨h2, h3⟩
      rw [hc j (by omega) hj, cov_between k j hk (by omega) h2 (by omega)] at h3
      cases h3
theorem cov_step (q k n : Nat) (hk : 0 < k) (hkn : k < n) (hn : n < 2 ^ 64) (hc : ∀ j, k ≤ j → j < n → cov q j = cov k j) : ∀ j, k + low k ≤ j → j < n → cov q j = cov (k + low k) j := by
  have hb := low_bd k hk (by omega)
  intro j h1 h2
  rw [hc j (by omega) h2, cov_next k j hk h1 (by omega)]

set_option maxHeartbeats 400000 in
theorem add_any (g n cap p : Nat) (f : Nat → Int) (v : Int) (w : World) (hp : p < 9223372036854775807) (hn : n ≤ 1048576) (hrow : w.rowIs g 3 n (fun j => .int .i64 (f j))) :
    Calls Yba.prog 5 #[.slice (some ⟨g, 0, none⟩) n cap, .int .i64 (p : Int), .int .i64 v] w fun e w' =>
      e = .returned (.tuple #[]) ∧ w'.rowIs g 3 n (fun j => .int .i64 (if cov (p + 1) j = true then wrap64 (f j + v) else f j)) ∧ Below g w w' := by
  go_enter Yba.func5, Yba.ntmps5
  go_wp2
  go_loopw [6] (fun i wr => ∃ k : Nat, 0 < k ∧ k ≤ 9223372036854775807 ∧ i = .int .i64 (k : Int) ∧ wr.rowIs g 3 n (fun j => .int .i64 (upTo f (p + 1) v k j)) ∧ (∀ j, k ≤ j → j < n → cov (p + 1) j = cov k j) ∧ Below g w wr) (fun i _ => n - (intOf i).toNat)
  case atStart =>
    refine ⟨p + 1, by omega, by omega, congrArg (Value.int .i64) (show (p : Int) + 1 = ((p + 1 : Nat) : Int) by omega), hrow.congr (fun j _ => ?_), fun _ _ _ => rfl, Below.refl _ _⟩
    rw [upTo_start]
  case round =>
    obtain ⟨k, hk0, hk1, rfl, hr, hc, hb⟩ := hrel
    by_cases hlt : k < n
    · have hcell : wr.cell? ⟨g, k, none⟩ = some (.int .i64 (f k)) := by rw [hr.cell hlt, upTo_at]
      have hfr := hr.frozen k
      have hl := low_bd k hk0 (by omega)
      have HL : Hid (bits .and .i64 (k : Int) (-(k : Int)) = ((low k : Nat) : Int)) := bits_low k hk0 (by omega)
      go_wp2
      go_roundw
      case rel =>
        refine ⟨k + low k, by omega, by omega, congrArg (Value.int .i64) ?_, ((hr.set k _).congr (fun j hj => ?_)), cov_step (p + 1) k n hk0 hlt (by omega) hc, hb.setCell (Nat.le_refl _) _⟩
        · rw [HL.out, IntWalk.wrap64_in _ (by omega)]; omega
        · exact upTo_step f (p + 1) v k n hk0 hlt (by omega) hc j hj
      case measure =>
        rw [HL.out, IntWalk.wrap64_in _ (by omega)]
        simp [intOf]; omega
    · go_wp2
      go_end0
      exact ⟨rfl, hr.congr (fun j hj => by rw [upTo_end f (p + 1) v k j (by omega)]), hb⟩

set_option maxHeartbeats 400000 in
/-- add on a nil tree. -/
theorem add_nil (p : Nat) (v : Int) (w : World) (hp : p < 9223372036854775807) :
    Calls Yba.prog 5 #[.slice none 0 0, .int .i64 (p : Int), .int .i64 v] w fun e w' => e = .returned (.tuple #[]) ∧ w' = w := by
  go_enter Yba.func5, Yba.ntmps5
  go_wp2
  refine wp_loop_rounds 1 ?_
  rw [rounds_succ]
  go_wp2
  go_end0
  exact ⟨rfl, rfl⟩
end Go.Proofs.Ybulkdmyq
