/-
  THE WALKS of (fenwick).add (it writes its own row alone), of newFenwick at a nil buffer, and of (fenwick).count.
-/
import Derived.Test.YbulkdmyqAdd
namespace Go.Proofs.Ybulkdmyq
open Go.RowKit Fen

/-- w' is w but for block g. -/
structure Only (g : Nat) (w w' : World) : Prop where
  os : w'.os = w.os
  tape : w'.tape = w.tape
  output : w'.output = w.output
  size : w'.heap.size = w.heap.size
  block : ∀ k, k ≠ g → w'.heap[k]? = w.heap[k]?
theorem Only.refl (g : Nat) (w : World) : Only g w w := ⟨rfl, rfl, rfl, rfl, fun _ _ => rfl⟩
theorem Only.setCell {g : Nat} {a w : World} (h : Only g a w) (i : Nat) (v : Value) : Only g a (w.setCell ⟨g, i, none⟩ v) :=
  ⟨h.os, h.tape, h.output, by rw [← h.size]; simp [World.setCell], fun k hk => by rw [Below.heap_setCell w _ v k hk]; exact h.block k hk⟩
theorem Only.drew {g : Nat} {a w : World} (h : Only g a w) : Only g a w.drew := ⟨h.os, h.tape, h.output, h.size, h.block⟩
theorem Only.below {g B : Nat} {w w' : World} (h : Only g w w') (hB : B ≤ g) : Below B w w' := ⟨h.os, h.tape, h.output, by rw [h.size]; exact Nat.le_refl _, fun k hk => h.block k (by omega)⟩
theorem Only.cell {g : Nat} {w w' : World} (h : Only g w w') {a : Addr} (ha : a.block ≠ g) : w'.cell? a = w.cell? a := World.cell?_of_block (w := w) (h.block a.block ha)
theorem Only.frozen {g : Nat} {w w' : World} (h : Only g w w') {a : Addr} (ha : a.block ≠ g) : w'.frozen? a = w.frozen? a := World.frozen?_of_block (w := w) (h.block a.block ha)

set_option maxHeartbeats 400000 in
theorem add_only (g n cap p : Nat) (f : Nat → Int) (v : Int) (w : World) (hp : p < 9223372036854775807) (hn : n ≤ 1048576) (hrow : w.rowIs g 3 n (fun j => .int .i64 (f j))) :
    Calls Yba.prog 5 #[.slice (some ⟨g, 0, none⟩) n cap, .int .i64 (p : Int), .int .i64 v] w fun e w' =>
      e = .returned (.tuple #[]) ∧ w'.rowIs g 3 n (fun j => .int .i64 (if cov (p + 1) j = true then wrap64 (f j + v) else f j)) ∧ Only g w w' := by
  go_enter Yba.func5, Yba.ntmps5
  go_wp2
  go_loopw [6] (fun i wr => ∃ k : Nat, 0 < k ∧ k ≤ 9223372036854775807 ∧ i = .int .i64 (k : Int) ∧ wr.rowIs g 3 n (fun j => .int .i64 (upTo f (p + 1) v k j)) ∧ (∀ j, k ≤ j → j < n → cov (p + 1) j = cov k j) ∧ Only g w wr) (fun i _ => n - (intOf i).toNat)
  case atStart =>
    refine ⟨p + 1, by omega, by omega, congrArg (Value.int .i64) (show (p : Int) + 1 = ((p + 1 : Nat) : Int) by omega), hrow.congr (fun j _ => ?_), fun _ _ _ => rfl, Only.refl _ _⟩
    rw [upTo_start]
  case round =>
    obtain ⟨k, hk0, hk1, rfl, hr, hc, hb⟩ := hrel
    by_cases hlt : k < n
    · have hcell : wr.cell? ⟨g, k, none⟩ = some (.int .i64 (f k)) := by rw [hr.cell hlt, upTo_at]
      have hfr := hr.frozen k
      have hl := low_bd k hk0 (by omega)
      have HL : Hid (bits .and .i64 (k : Int) (-(k : Int)) = ((low k : Nat) : Int)) := bits_low k hk0 (by omega)
      go_wp2
      go_roundw
      case rel =>
        refine ⟨k + low k, by omega, by omega, congrArg (Value.int .i64) ?_, ((hr.set k _).congr (fun j hj => ?_)), cov_step (p + 1) k n hk0 hlt (by omega) hc, hb.setCell _ _⟩
        · rw [HL.out, IntWalk.wrap64_in _ (by omega)]; omega
        · exact upTo_step f (p + 1) v k n hk0 hlt (by omega) hc j hj
      case measure =>
        rw [HL.out, IntWalk.wrap64_in _ (by omega)]
        simp [intOf]; omega
    · go_wp2
      go_end0
      exact ⟨rfl, hr.congr (fun j hj => by rw [upTo_end f (p + 1) v k j (by omega)]), hb⟩

theorem count_step (A : Nat → Int) (k q : Nat) (hk : k ≤ q) : wrap64 (wrap64 (S A k q) + T A k) = wrap64 (S A (k - low k) q) := by
  unfold T
  rw [w64_add2, S_split A (k - low k) k q (by omega) hk, Int.add_comm]

set_option maxHeartbeats 400000 in
theorem count_any (g m cap q : Nat) (A : Nat → Int) (w : World) (hq : q < m) (hm : m ≤ 1048576) (hrow : w.rowIs g 3 m (fun j => .int .i64 (T A j))) :
    Calls Yba.prog 7 #[.slice (some ⟨g, 0, none⟩) m cap, .int .i64 (q : Int)] w fun e w' => e = .returned (.int .i64 (wrap64 (S A 0 q))) ∧ w' = w := by
  go_enter Yba.func7, Yba.ntmps7
  go_wp2
  go_loop [5, 6] (fun s i => ∃ k : Nat, k ≤ q ∧ i = .int .i64 (k : Int) ∧ s = .int .i64 (wrap64 (S A k q))) (fun _ i => (intOf i).toNat)
  case atStart =>
    refine ⟨q, Nat.le_refl _, rfl, congrArg (Value.int .i64) ?_⟩
    rw [S_self]; unfold wrap64; decide
  case round =>
    obtain ⟨k, hk, rfl, rfl⟩ := hrel
    by_cases hlt : 0 < k
    · have hcell := hrow.cell (show k < m by omega)
      have hl := low_bd k hlt (by omega)
      have HL : Hid (bits .and .i64 (k : Int) (-(k : Int)) = ((low k : Nat) : Int)) := bits_low k hlt (by omega)
      go_wp2
      go_round
      case rel =>
        refine ⟨k - low k, by omega, congrArg (Value.int .i64) ?_, congrArg (Value.int .i64) (count_step A k q hk)⟩
        rw [HL.out, IntWalk.wrap64_in _ (by omega)]; omega
      case measure =>
        rw [HL.out, IntWalk.wrap64_in _ (by omega)]
        simp [intOf]; omega
    · obtain rfl : k = 0 := by omega
      go_wp2
      go_ret
      exact ⟨rfl, rfl⟩

theorem Yba.info3b : (Yba.prog.info? 3).map (fun i => (i.zero, i.size, i.bytes)) = some (some (.int .i64 0), 1, 8) := by kernel_rfl

set_option maxHeartbeats 400000 in
theorem new_any (n : Nat) (w : World) (hn : n ≤ 1048576) :
    Calls Yba.prog 6 #[.int .i64 (n : Int), .slice none 0 0] w fun e w' => e = .returned (.slice (some ⟨w.heap.size, 0, none⟩) (n + 1) (n + 1)) ∧ w' = w.alloc (.cells (madeCells #[.int .i64 0] (n + 1)) 3) := by
  have hmk := fun w => run_make_row' (P := Yba.prog) 23 3 (.int .i64 0) 8 Yba.underlying23 Yba.info3b rfl .i64 .i64 (n + 1) (by omega) (by omega) w
  have ec : ((n + 1 : Nat) : Int) = (n : Int) + 1 := by omega
  rw [ec] at hmk
  clear ec
  go_enter Yba.func6, Yba.ntmps6
  go_wp2
  go_ret
  exact ⟨rfl, rfl⟩
end Go.Proofs.Ybulkdmyq
