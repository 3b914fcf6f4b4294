/-
  THE WALK of punycode.LawS5697BWhole.
-/
import Derived.Test.YbulkdmyqAdd
import Derived.Laws.CopyOwn
namespace Go.Proofs.Ybulkdmyq
open Go.RowKit Fen

theorem Yba.info3 : (Yba.prog.info? 3).map (fun i => (i.zero, i.size, i.bytes)) = some (some (.int .i64 0), 1, 8) := by kernel_rfl
theorem Yba.size3 : (Yba.prog.info? 3).map (·.size) = some 1 := by kernel_rfl

/-- From make and copy to the tree's row. -/
theorem row_of_copy {w : World} {g : Nat} (cs : List Value) (n : Nat) (h : w.heap[g]? = some (.cells (splice (List.replicate n (.int .i64 0)) 0 cs).toArray 3 (0, 0))) (hn : cs.length = n) (f : Nat → Value) (hf : ∀ j, j < n → cs[j]? = some (f j)) :
    w.rowIs g 3 n f := by
  have e : splice (List.replicate n (Value.int .i64 0)) 0 cs = cs := by
    unfold splice
    simp [hn]
  rw [e] at h
  exact ⟨cs.toArray, h, by simpa using hn, fun i hi => by simpa using hf i hi⟩

theorem made_heap (w : World) (n : Nat) : (w.alloc (.cells (madeCells #[.int .i64 0] n) 3)).heap[w.heap.size]? = some (.cells (List.replicate n (Value.int .i64 0)).toArray 3 (0, 0)) := by
  rw [heap_alloc_new, ← toList_madeCells_one]

set_option maxHeartbeats 2000000 in
theorem whole_row (x : Addr) (n cap : Nat) (zs : List Int) (p : Nat) (v : Int) (w : World) (hn : n ≤ 1048576) (hnc : n ≤ cap) (hz : zs.length = cap)
    (hc : ∀ i, i < zs.length → w.cell? (x.add i) = some (.int .i64 (zs.getD i 0))) (hp : p < 9223372036854775807) (pos : Int) (hpos : pos = (p : Int) ∨ pos = -(p : Int) - 1) :
    Calls Yba.prog 3 #[.slice (some x) n cap, .int .i64 pos, .int .i64 v] w fun e w' => e = .returned (.bool true) ∧ Below w.heap.size w w' := by
  have q22 : ∀ (w : World) (a : Option Addr) (n c n' c' : Nat), (binOp .neq 22 (.slice a n c) (.slice none n' c')).run Yba.prog w = .ok (.bool (!a.isNone)) w := fun w a n c n' c' => run_neq_slice_nil_any w 22 3 a n c n' c' Yba.underlying22
  have e22 : ∀ (w : World) (a : Option Addr) (n c n' c' : Nat), (binOp .eql 22 (.slice a n c) (.slice none n' c')).run Yba.prog w = .ok (.bool a.isNone) w := fun w a n c n' c' => Lib.run_eql_slice_nil w 22 3 a n c n' c' Yba.underlying22
  have e23 : ∀ (w : World) (a : Option Addr) (n c n' c' : Nat), (binOp .eql 23 (.slice a n c) (.slice none n' c')).run Yba.prog w = .ok (.bool a.isNone) w := fun w a n c n' c' => Lib.run_eql_slice_nil w 23 3 a n c n' c' Yba.underlying23
  have hmk := fun w => run_make_row' (P := Yba.prog) 23 3 (.int .i64 0) 8 Yba.underlying23 Yba.info3 rfl .i64 .i64 n (by omega) (by omega) w
  obtain ⟨cs, hcs⟩ : ∃ cs : List Value, cs = (zs.take n).map (Value.int .i64) := ⟨_, rfl⟩
  have HCS : Hid (cs = (zs.take n).map (Value.int .i64)) := hcs
  have hlen : cs.length = n := by rw [hcs]; simp; omega
  clear hcs
  rcases hpos with rfl | rfl
  all_goals
    go_enter Yba.func3, Yba.ntmps3
    go_wp2_with (refine wpList_copy_splice rfl (.tmp 29) (.tmp 30) 23 22 rfl 3 Yba.underlying23 Yba.size3 (some ⟨w.heap.size, 0, none⟩) (some x) n n n cap rfl rfl w.heap.size 0 (List.replicate n (.int .i64 0)) 3 (made_heap w n) cs (by rw [hlen]; exact (Nat.min_self n).symm) (fun _ => ⟨rfl, x, rfl, ?hsrc⟩) (by simp [hlen]) ?hone w.heap.size w ((Below.refl _ _).alloc (Nat.le_refl _) _) (Nat.le_refl _) ?_; rotate_right; intro w1 hrow1 hb1)

    case hsrc =>
      intro j u hu
      rw [HCS.out] at hu
      simp only [List.getElem?_map, Option.map_eq_some_iff] at hu
      obtain ⟨z, hz1, rfl⟩ := hu
      obtain ⟨hj, hz2⟩ := List.getElem?_eq_some_iff.1 hz1
      simp only [List.length_take] at hj
      have hcj := hc j (by omega)
      have hlt := block_lt_of_cell hcj
      rw [((Below.refl w.heap.size w).alloc (Nat.le_refl _) _).cell hlt, hcj]
      simp only [List.getElem_take] at hz2
      rw [← hz2]
      simp [List.getD, show j < zs.length by omega]
    case hone =>
      intro u hu
      rw [HCS.out] at hu
      obtain ⟨z, _, rfl⟩ := List.mem_map.1 hu
      rfl
    have hrow : w1.rowIs w.heap.size 3 n (fun j => .int .i64 (zs.getD j 0)) := row_of_copy cs n hrow1.out hlen _ (fun j hj => by
      rw [HCS.out]
      simp [List.getD, show j < n from hj, show j < zs.length by omega])
    clear hrow1 hmk
    refine (add_any w.heap.size n n p (fun j => zs.getD j 0) v w1 hp hn hrow).mono ?_
    rintro e w2 ⟨rfl, hr2, hb2⟩
    have hb : Below w.heap.size w w2 := hb1.trans hb2
    clear hb1 hb2 hrow HCS hlen
    go_wp2
    go_loop [10] (fun i => ∃ k : Nat, k ≤ n ∧ i = .int .i64 (k : Int)) (fun i => n - (intOf i).toNat)
    case atStart => exact ⟨0, Nat.zero_le _, rfl⟩
    case round =>
      obtain ⟨k, hk, rfl⟩ := hrel
      by_cases hlt : k < n
      · have hck : w2.cell? (x.add k) = some (.int .i64 (zs.getD k 0)) := by rw [hb.cell (block_lt_of_cell (hc k (by omega)))]; exact hc k (by omega)
        have hgk := hr2.cell hlt
        rcases (show k = 0 ∨ (0 < k ∧ k - low k < p + 1 ∧ p + 1 ≤ k) ∨ (0 < k ∧ k - low k < p + 1 ∧ k < p + 1) ∨ (0 < k ∧ p + 1 ≤ k - low k) by omega) with rfl | ⟨h0, h1, h2⟩ | ⟨h0, h1, h2⟩ | ⟨h0, h1⟩
        · rw [if_neg (by rw [cov_zero _ (by omega)]; decide)] at hgk
          rw [show x.add 0 = x from if_pos rfl] at hck
          go_wp2
          go_round
          case rel => exact ⟨1, by omega, rfl⟩
          case measure => simp [intOf]; omega
        all_goals
          have hl := low_bd k h0 (by omega)
          have hL := bits_low k h0 (by omega)
          first
            | rw [if_pos (by simp only [cov, decide_eq_true_eq]; omega)] at hgk
            | rw [if_neg (by simp only [cov, decide_eq_true_eq]; omega)] at hgk
          go_wp2
          go_round
          case rel => exact ⟨k + 1, by omega, by go_num⟩
          case measure => simp [intOf]; omega
      · go_wp2
        go_ret
        exact ⟨rfl, hb⟩

set_option maxHeartbeats 400000 in
/-- f is nil. -/
theorem whole_nil (p : Nat) (v : Int) (w : World) (hp : p < 9223372036854775807) (pos : Int) (hpos : pos = (p : Int) ∨ pos = -(p : Int) - 1) :
    Calls Yba.prog 3 #[.slice none 0 0, .int .i64 pos, .int .i64 v] w fun e w' => e = .returned (.bool true) ∧ Below w.heap.size w w' := by
  have q22 : ∀ (w : World) (a : Option Addr) (n c n' c' : Nat), (binOp .neq 22 (.slice a n c) (.slice none n' c')).run Yba.prog w = .ok (.bool (!a.isNone)) w := fun w a n c n' c' => run_neq_slice_nil_any w 22 3 a n c n' c' Yba.underlying22
  have e22 : ∀ (w : World) (a : Option Addr) (n c n' c' : Nat), (binOp .eql 22 (.slice a n c) (.slice none n' c')).run Yba.prog w = .ok (.bool a.isNone) w := fun w a n c n' c' => Lib.run_eql_slice_nil w 22 3 a n c n' c' Yba.underlying22
  have e23 : ∀ (w : World) (a : Option Addr) (n c n' c' : Nat), (binOp .eql 23 (.slice a n c) (.slice none n' c')).run Yba.prog w = .ok (.bool a.isNone) w := fun w a n c n' c' => Lib.run_eql_slice_nil w 23 3 a n c n' c' Yba.underlying23
  rcases hpos with rfl | rfl
  all_goals
    go_enter Yba.func3, Yba.ntmps3
    go_wp2_with (go_at_call 5; refine (add_nil p v _ hp).mono ?_; rintro e w' ⟨rfl, rfl⟩)
    refine wp_loop_rounds 1 ?_
    rw [rounds_succ]
    go_wp2
    go_ret
    exact ⟨rfl, Below.refl _ _⟩

set_option maxHeartbeats 400000 in
/-- f is long. -/
theorem whole_long (a : Option Addr) (n cap : Nat) (pos v : Int) (w : World) (hn : 1048576 < n) (hm : n ≤ 9223372036854775807) :
    Calls Yba.prog 3 #[.slice a n cap, .int .i64 pos, .int .i64 v] w fun e w' => e = .returned (.bool true) ∧ Below w.heap.size w w' := by
  go_enter Yba.func3, Yba.ntmps3
  go_wp2
  go_ret
  exact ⟨rfl, Below.refl _ _⟩

set_option maxHeartbeats 400000 in
/-- pos is MaxInt or MinInt. -/
theorem whole_max (a : Option Addr) (n cap : Nat) (pos v : Int) (w : World) (hn : n ≤ 1048576) (hpos : pos = 9223372036854775807 ∨ pos = -9223372036854775808) :
    Calls Yba.prog 3 #[.slice a n cap, .int .i64 pos, .int .i64 v] w fun e w' => e = .returned (.bool true) ∧ Below w.heap.size w w' := by
  rcases hpos with rfl | rfl
  all_goals
    go_enter Yba.func3, Yba.ntmps3
    go_wp2
    go_ret
    exact ⟨rfl, Below.refl _ _⟩
end Go.Proofs.Ybulkdmyq
