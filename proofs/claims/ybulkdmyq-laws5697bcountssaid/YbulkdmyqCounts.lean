/-
  THE WALK of punycode.LawS5697BCounts.
-/
import Derived.Test.YbulkdmyqAdd2
namespace Go.Proofs.Ybulkdmyq
open Go.RowKit Fen

/-- The tree of A in block gt, the plain sums of A in block gt + 1. -/
def Both (gt n : Nat) (A : Nat → Int) (w : World) : Prop := w.rowIs gt 3 (n + 1) (fun j => .int .i64 (T A j)) ∧ w.rowIs (gt + 1) 3 n (fun j => .int .i64 (wrap64 (A j)))

theorem w64_zero : wrap64 0 = 0 := by unfold wrap64; decide

theorem both_start (w : World) (n : Nat) : Both w.heap.size n (fun _ => 0) ((w.alloc (.cells (madeCells #[.int .i64 0] (n + 1)) 3)).alloc (.cells (madeCells #[.int .i64 0] n) 3)) := by
  refine ⟨((World.rowIs_made w (.int .i64 0) (n + 1) 3).alloc _).congr (fun j _ => by rw [T_zero]), ?_⟩
  have := World.rowIs_made (w.alloc (.cells (madeCells #[.int .i64 0] (n + 1)) 3)) (.int .i64 0) n 3
  rw [World.size_alloc] at this
  exact this.congr (fun j _ => by rw [w64_zero])

theorem min_step (A : Nat → Int) (q n : Nat) (h : q < n) : wrap64 (wrap64 (S A 0 q) + wrap64 (A q)) = wrap64 (S A 0 (min (q + 1) n)) := by
  rw [show min (q + 1) n = q + 1 by omega, w64_add2, S_snoc]
theorem min_last (A : Nat → Int) (q : Nat) : wrap64 (S A 0 q) = wrap64 (S A 0 (min (q + 1) q)) := by
  rw [show min (q + 1) q = q by omega]

theorem naive_step (A : Nat → Int) (p : Nat) (v : Int) (j : Nat) : (if j = p then Value.int .i64 (wrap64 (wrap64 (A p) + v)) else Value.int .i64 (wrap64 (A j))) = Value.int .i64 (wrap64 (bump A p v j)) := by
  unfold bump
  by_cases h : j = p
  · subst h; rw [if_pos rfl, if_pos rfl, w64_add]
  · rw [if_neg h, if_neg h]

theorem min_at (A : Nat → Int) (q n : Nat) (h : q ≤ n) : S A 0 (min q n) = S A 0 q := by rw [show min q n = q by omega]

set_option maxHeartbeats 1000000 in
theorem counts_row (b off len cap n s : Nat) (P : Nat → Nat) (V : Nat → Int) (w : World) (hs : s < 65536) (hn : s % 2048 = n) (hn0 : 0 < n) (hlen : len ≤ 65536)
    (hP : ∀ i, i < len → P i < 65536) (hc0 : ∀ i, i < len → w.cell? ⟨b, off + i * 2, none⟩ = some (.int .u16 (P i : Int))) (hc1 : ∀ i, i < len → w.cell? ⟨b, off + i * 2 + 1, none⟩ = some (.int .i64 (V i))) :
    Calls Yba.prog 4 #[.int .u16 (s : Int), .slice (some ⟨b, off, none⟩) len cap] w fun e w' => e = .returned (.bool true) ∧ Below w.heap.size w w' := by
  have hN : ((s : Int) % 2048) = (n : Int) := by omega
  have hn1 : n < 2048 := by omega
  clear hn
  have hmk := fun w => run_make_row' (P := Yba.prog) 22 3 (.int .i64 0) 8 Yba.underlying22 Yba.info3b rfl .i64 .i64 n (by omega) (by omega) w
  go_enter Yba.func4, Yba.ntmps4
  go_wp2_with (go_at_call 6; refine (new_any n _ (by omega)).mono ?_; rintro e w' ⟨rfl, rfl⟩)
  go_loopw [27] (fun i wr => ∃ k : Nat, ∃ A : Nat → Int, k ≤ len ∧ i = .int .i64 (k : Int) ∧ Both w.heap.size n A wr ∧ Below w.heap.size w wr) (fun i _ => len - (intOf i).toNat)
  case atStart => exact ⟨0, fun _ => 0, Nat.zero_le _, rfl, both_start w n, ((Below.refl _ _).alloc (Nat.le_refl _) _).alloc (by simp) _⟩
  case round =>
    obtain ⟨k, A, hk, rfl, ⟨hr1, hr2⟩, hb⟩ := hrel
    by_cases hlt : k < len
    · have hx0 : wr.cell? ⟨b, off + k * 2, none⟩ = some (.int .u16 (P k : Int)) := (hb.cell (block_lt_of_cell (hc0 k hlt))).trans (hc0 k hlt)
      have hx1 : wr.cell? ⟨b, off + k * 2 + 1, none⟩ = some (.int .i64 (V k)) := (hb.cell (block_lt_of_cell (hc1 k hlt))).trans (hc1 k hlt)
      have hPk := hP k hlt
      obtain ⟨pk, hpk⟩ : ∃ pk, P k % n = pk := ⟨_, rfl⟩
      have hpn : pk < n := by rw [← hpk]; exact Nat.mod_lt _ hn0
      have hPn : ((P k : Int) % (n : Int)) = (pk : Int) := by rw [← hpk]; exact (Int.natCast_emod _ _).symm
      clear hpk hc0 hc1 hP hmk
      go_wp2_with fail
      refine (add_only w.heap.size (n + 1) (n + 1) pk (T A) (V k) _ (by omega) (by omega) (hr1.alloc _)).mono ?_
      rintro e w2 ⟨rfl, hr3, ho⟩
      have hg1 := hr1.lt
      have hg2 := hr2.lt
      have hs1 : w2.cell? ⟨wr.heap.size, 1, none⟩ = some (.int .i64 (V k)) := by
        rw [ho.cell (by show wr.heap.size ≠ w.heap.size; omega)]
        simp [go_sem]
      have hr4 : w2.rowIs (w.heap.size + 1) 3 n (fun j => .int .i64 (wrap64 (A j))) := (hr2.alloc _).of_block (ho.block _ (by omega))
      have hcell := hr4.cell hpn
      have hfr := hr4.frozen pk
      have hb2 : Below w.heap.size w w2 := (hb.alloc (by omega) _).trans (ho.below (Nat.le_refl _))
      clear ho hr1 hr2 hx0 hx1 hb
      go_wp2
      go_region
      go_wp2
      go_roundw
      case rel =>
        refine ⟨k + 1, bump A pk (V k), by omega, by go_num, ⟨?_, ?_⟩, ?_⟩
        · exact ((hr3.setOther (a := ⟨w.heap.size + 1, pk, none⟩) (by show w.heap.size ≠ w.heap.size + 1; omega) _).drew).congr (fun j _ => by rw [T_bump])
        · exact ((hr4.set pk _).drew).congr (fun j _ => naive_step A pk (V k) j)
        · exact (hb2.setCell (by show w.heap.size ≤ w.heap.size + 1; omega) _).drew
      case measure => simp [intOf]; omega
    · clear hc0 hc1 hP hmk
      go_wp2
      go_loop [11, 12] (fun t i => ∃ q : Nat, q ≤ n + 1 ∧ i = .int .i64 (q : Int) ∧ t = .int .i64 (wrap64 (S A 0 (min q n)))) (fun _ i => n + 1 - (intOf i).toNat)
      case atStart => exact ⟨0, by omega, rfl, congrArg (Value.int .i64) (by rw [Nat.zero_min, S_self, w64_zero])⟩
      case round =>
        obtain ⟨q, hq, rfl, rfl⟩ := hrel
        rcases (show q < n ∨ q = n ∨ q = n + 1 by omega) with hqn | rfl | rfl
        · have hcell := hr2.cell hqn
          have e1 := min_at A q n (by omega)
          go_wp2_with (go_at_call 7; refine (count_any w.heap.size (n + 1) (n + 1) q A _ (by omega) (by omega) hr1).mono ?_; rintro e w' ⟨rfl, rfl⟩)
          go_round
          case rel => exact ⟨q + 1, by omega, by go_num, congrArg (Value.int .i64) (min_step A q n hqn)⟩
          case measure => simp [intOf]; omega
        · have e1 := min_at A q q (by omega)
          go_wp2_with (go_at_call 7; refine (count_any w.heap.size (q + 1) (q + 1) q A _ (by omega) (by omega) hr1).mono ?_; rintro e w' ⟨rfl, rfl⟩)
          go_round
          case rel => exact ⟨q + 1, by omega, by go_num, congrArg (Value.int .i64) (min_last A q)⟩
          case measure => simp [intOf]
        · go_wp2
          go_ret
          exact ⟨rfl, hb⟩

set_option maxHeartbeats 1000000 in
/-- No step. -/
theorem counts_none (a : Option Addr) (cap n s : Nat) (w : World) (hs : s < 65536) (hn : s % 2048 = n) (hn0 : 0 < n) :
    Calls Yba.prog 4 #[.int .u16 (s : Int), .slice a 0 cap] w fun e w' => e = .returned (.bool true) ∧ Below w.heap.size w w' := by
  have hN : ((s : Int) % 2048) = (n : Int) := by omega
  have hn1 : n < 2048 := by omega
  clear hn
  have hmk := fun w => run_make_row' (P := Yba.prog) 22 3 (.int .i64 0) 8 Yba.underlying22 Yba.info3b rfl .i64 .i64 n (by omega) (by omega) w
  obtain ⟨A, hA⟩ : ∃ A : Nat → Int, A = fun _ => 0 := ⟨_, rfl⟩
  have hst := both_start w n
  rw [← hA] at hst
  clear hA
  have hb := ((Below.refl w.heap.size w).alloc (Nat.le_refl _) (.cells (madeCells #[.int .i64 0] (n + 1)) 3)).alloc (by simp) (.cells (madeCells #[.int .i64 0] n) 3)
  obtain ⟨hr1, hr2⟩ := hst
  go_enter Yba.func4, Yba.ntmps4
  go_wp2_with (go_at_call 6; refine (new_any n _ (by omega)).mono ?_; rintro e w' ⟨rfl, rfl⟩)
  refine wp_loop_rounds 1 ?_
  rw [rounds_succ]
  go_wp2
  go_loop [11, 12] (fun t i => ∃ q : Nat, q ≤ n + 1 ∧ i = .int .i64 (q : Int) ∧ t = .int .i64 (wrap64 (S A 0 (min q n)))) (fun _ i => n + 1 - (intOf i).toNat)
  case atStart => exact ⟨0, by omega, rfl, congrArg (Value.int .i64) (by rw [Nat.zero_min, S_self, w64_zero])⟩
  case round =>
    obtain ⟨q, hq, rfl, rfl⟩ := hrel
    rcases (show q < n ∨ q = n ∨ q = n + 1 by omega) with hqn | rfl | rfl
    · have hcell := hr2.cell hqn
      have e1 := min_at A q n (by omega)
      go_wp2_with (go_at_call 7; refine (count_any w.heap.size (n + 1) (n + 1) q A _ (by omega) (by omega) hr1).mono ?_; rintro e w' ⟨rfl, rfl⟩)
      go_round
      case rel => exact ⟨q + 1, by omega, by go_num, congrArg (Value.int .i64) (min_step A q n hqn)⟩
      case measure => simp [intOf]; omega
    · have e1 := min_at A q q (by omega)
      go_wp2_with (go_at_call 7; refine (count_any w.heap.size (q + 1) (q + 1) q A _ (by omega) (by omega) hr1).mono ?_; rintro e w' ⟨rfl, rfl⟩)
      go_round
      case rel => exact ⟨q + 1, by omega, by go_num, congrArg (Value.int .i64) (min_last A q)⟩
      case measure => simp [intOf]
    · go_wp2
      go_ret
      exact ⟨rfl, hb⟩

set_option maxHeartbeats 1000000 in
/-- A tree of no position. -/
theorem counts_zero (a : Option Addr) (len cap n s : Nat) (w : World) (hs : s < 65536) (hn : s % 2048 = n) (hn0 : n ≤ 0) (hlen : len ≤ 65536) :
    Calls Yba.prog 4 #[.int .u16 (s : Int), .slice a len cap] w fun e w' => e = .returned (.bool true) ∧ Below w.heap.size w w' := by
  have hN : ((s : Int) % 2048) = (n : Int) := by omega
  have hn1 : n < 2048 := by omega
  clear hn
  have hmk := fun w => run_make_row' (P := Yba.prog) 22 3 (.int .i64 0) 8 Yba.underlying22 Yba.info3b rfl .i64 .i64 n (by omega) (by omega) w
  obtain ⟨A, hA⟩ : ∃ A : Nat → Int, A = fun _ => 0 := ⟨_, rfl⟩
  have hst := both_start w n
  rw [← hA] at hst
  clear hA
  have hb := ((Below.refl w.heap.size w).alloc (Nat.le_refl _) (.cells (madeCells #[.int .i64 0] (n + 1)) 3)).alloc (by simp) (.cells (madeCells #[.int .i64 0] n) 3)
  obtain ⟨hr1, hr2⟩ := hst
  have HZ : Hid (n ≤ 0) := hn0
  have hz : ¬ 0 < n := by omega
  clear hn0
  go_enter Yba.func4, Yba.ntmps4
  go_wp2_with (go_at_call 6; refine (new_any n _ (by omega)).mono ?_; rintro e w' ⟨rfl, rfl⟩)
  go_loop [11, 12] (fun t i => ∃ q : Nat, q ≤ n + 1 ∧ i = .int .i64 (q : Int) ∧ t = .int .i64 (wrap64 (S A 0 (min q n)))) (fun _ i => n + 1 - (intOf i).toNat)
  case atStart => exact ⟨0, by omega, rfl, congrArg (Value.int .i64) (by rw [Nat.zero_min, S_self, w64_zero])⟩
  case round =>
    obtain ⟨q, hq, rfl, rfl⟩ := hrel
    rcases (show q = n ∨ q = n + 1 by have := HZ.out; omega) with rfl | rfl
    · have e1 := min_at A q q (by omega)
      go_wp2_with (go_at_call 7; refine (count_any w.heap.size (q + 1) (q + 1) q A _ (by omega) (by omega) hr1).mono ?_; rintro e w' ⟨rfl, rfl⟩)
      go_round
      case rel => exact ⟨q + 1, by omega, by go_num, congrArg (Value.int .i64) (min_last A q)⟩
      case measure => simp [intOf]
    · go_wp2
      go_ret
      exact ⟨rfl, hb⟩

set_option maxHeartbeats 400000 in
/-- A long script. -/
theorem counts_long (a : Option Addr) (len cap : Nat) (s : Int) (w : World) (hlen : 65536 < len) (hm : len ≤ 9223372036854775807) :
    Calls Yba.prog 4 #[.int .u16 s, .slice a len cap] w fun e w' => e = .returned (.bool true) ∧ Below w.heap.size w w' := by
  go_enter Yba.func4, Yba.ntmps4
  go_wp2
  go_ret
  exact ⟨rfl, Below.refl _ _⟩
end Go.Proofs.Ybulkdmyq
