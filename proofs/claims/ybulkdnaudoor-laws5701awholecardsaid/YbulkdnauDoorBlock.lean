/-
  THE WALK of (*yamlScanner).blockIndicator.
-/
import Derived.Test.YbulkdnauDoorIndic
namespace Go.Proofs.YbulkdnauDoor
open Go.RowKit

set_option maxRecDepth 100000 in
set_option maxHeartbeats 1000000 in
theorem block_flow (gS gT B m k : Nat) (f : Nat → Value) (flows pos col : Int) (k0 l c : Int) (tb : Bool) (v s : ByteArray) (xs : List Value) (w : World) (hrow : w.rowIs gS 32 11 f) (h1 : f 1 = .int .i64 pos) (h7 : f 7 = .int .i64 flows) (h9 : f 9 = .slice (some ⟨gT, 0, none⟩) m m)
    (hfl : (flows == 0) = false) (hT : gT ≠ gS) (hm : m ≤ 1048576) (hB : B ≤ w.heap.size) (hk : k < 19) (hind : w.cell? ⟨0, k, none⟩ = some (.string s)) (hown0 : w.ownsRow B 28 5 (.slice (some ⟨gT, 0, none⟩) m m) m xs) :
    Calls Ybad.prog 5 #[.pointer (some ⟨gS, 0, none⟩), .agg #[.int .u8 k0, .bool tb, .int .i32 l, .int .i32 c, .string v], .int .u8 (k : Int), .int .i64 col] w fun e w' => e = .returned .nilIface ∧ ∃ g cap, w'.rowIs gS 32 11 (put19 f (.int .i64 (wrap64 (pos + (s.size : Int)))) (.slice (some ⟨g, 0, none⟩) (m + 1) cap)) ∧
      w'.ownsRow B 28 5 (.slice (some ⟨g, 0, none⟩) (m + 1) cap) (m + 1) (xs ++ [.int .u8 (k : Int), .bool tb, .int .i32 l, .int .i32 c, .string s]) ∧ g ≠ gS ∧ Keep (fun j => j = gS ∨ j = gT) w w' := by
  have c7 : w.cell? ⟨gS, 7, none⟩ = some (.int .i64 flows) := by rw [hrow.cell (show 7 < 11 by omega), h7]
  have b1 := fun X => (Below.refl w.heap.size w).alloc (Nat.le_refl _) X
  have c7' := fun X => cell_later (b1 X) c7
  have hlt := hrow.lt
  go_enter Ybad.func5, Ybad.ntmps5
  go_wp2_with fail
  refine (indic_any gS gT B m k f pos k0 l c tb v s xs _ (hrow.alloc _) h1 h9 hT hm (by simp; omega) hk (cell_later (b1 _) hind) (hown0.alloc _)).mono ?_
  rintro e w' ⟨rfl, g, cap, hr, ho, hg, hK⟩
  have hK' : Keep (fun j => j = gS ∨ j = gT) w w' := ((Keep.refl _ w).alloc _).trans hK
  clear hK
  go_wp2
  go_ret
  exact ⟨rfl, g, cap, hr, ho, hg, hK'⟩

set_option maxRecDepth 100000 in
set_option maxHeartbeats 1000000 in
theorem block_zero (gS gT B m k n : Nat) (ve : Value) (zs : Nat → Int) (f : Nat → Value) (pos col : Int) (k0 l c : Int) (tb : Bool) (v s : ByteArray) (xs : List Value) (w : World) (hrow : w.rowIs gS 32 11 f) (h1 : f 1 = .int .i64 pos) (h7 : f 7 = .int .i64 0) (h8 : f 8 = ve) (h9 : f 9 = .slice (some ⟨gT, 0, none⟩) m m)
    (hve : ve.ownBlock ≠ some gS) (hveT : ve.ownBlock ≠ some gT) (hveI : ve.ownBlock ≠ some 0) (hT : gT ≠ gS) (hS0 : 0 ≠ gS) (hm : m ≤ 1048576) (hn : n ≤ 1048576) (hB : B ≤ w.heap.size) (hk : k < 19) (hind : w.cell? ⟨0, k, none⟩ = some (.string s)) (hownE : w.ownsRow B 3 1 ve n (ints zs n)) (hown0 : w.ownsRow B 28 5 (.slice (some ⟨gT, 0, none⟩) m m) m xs)
    (K : Nat) (hKk : K = keep zs (wrap64 (col - 1)) n) :
    Calls Ybad.prog 5 #[.pointer (some ⟨gS, 0, none⟩), .agg #[.int .u8 k0, .bool tb, .int .i32 l, .int .i32 c, .string v], .int .u8 (k : Int), .int .i64 col] w fun e w' => e = .returned .nilIface ∧ ∃ g cap g' cap', w'.rowIs gS 32 11 (put19 (put8 f (.slice (some ⟨g', 0, none⟩) (K + 1) cap')) (.int .i64 (wrap64 (pos + (s.size : Int)))) (.slice (some ⟨g, 0, none⟩) (m + 1) cap)) ∧
      w'.ownsRow B 28 5 (.slice (some ⟨g, 0, none⟩) (m + 1) cap) (m + 1) (xs ++ [.int .u8 (k : Int), .bool tb, .int .i32 l, .int .i32 c, .string s]) ∧ w'.ownsRow B 3 1 (.slice (some ⟨g', 0, none⟩) (K + 1) cap') (K + 1) (ints zs K ++ [.int .i64 col]) ∧
      Keep (fun j => j = gS ∨ j = gT ∨ ve.ownBlock = some j) w w' := by
  have HK : Hid (K = keep zs (wrap64 (col - 1)) n) := hKk
  clear hKk
  have c7 : w.cell? ⟨gS, 7, none⟩ = some (.int .i64 0) := by rw [hrow.cell (show 7 < 11 by omega), h7]
  have b1 := fun X => (Below.refl w.heap.size w).alloc (Nat.le_refl _) X
  have c7' := fun X => cell_later (b1 X) c7
  have hlt := hrow.lt
  have hTlt : gT < w.heap.size := (hown0.lt gT rfl).2
  have hvlt : ve.ownBlock ≠ some w.heap.size := fun e => by have := (hownE.lt _ e).2; omega
  have tokc := tok_block w (.int .u8 k0) (.bool tb) (.int .i32 l) (.int .i32 c) (.string v)
  clear c7
  go_enter Ybad.func5, Ybad.ntmps5
  go_wp2_with fail
  refine (enter_any gS B n ve zs f col _ (hrow.alloc _) h8 hve hn (by simp; omega) (hownE.alloc _) K HK.out).mono ?_
  rintro e w1 ⟨rfl, g', cap', hr1, ho1, hg', hat, hK1⟩
  obtain ⟨t0, t1, t2, t3, t4, _⟩ := tokc
  have ns : ¬ (w.heap.size = gS ∨ ve.ownBlock = some w.heap.size) := by
    rintro (h | h)
    · omega
    · exact hvlt h
  replace t0 := hK1.cellAt t0 ns
  replace t1 := hK1.cellAt t1 ns
  replace t2 := hK1.cellAt t2 ns
  replace t3 := hK1.cellAt t3 ns
  replace t4 := hK1.cellAt t4 ns
  have hi1 := hK1.cellAt (cell_later (b1 _) hind) (by rintro (h | h); exact hS0 h; exact hveI h)
  have hoT := own_kept (hown0.alloc _) hK1 (fun j hj => by
    simp only [Value.ownBlock, Option.some.injEq] at hj
    subst hj
    rintro (h | h)
    · exact hT h
    · exact hveT h)
  have hg'T : g' ≠ gT := by
    rcases hat with h | h
    · intro e; subst e; exact hveT h
    · simp at h; omega
  have hs1 := hK1.size
  have hKw : Keep (fun j => j = gS ∨ j = gT ∨ ve.ownBlock = some j) w w1 := ((Keep.refl _ w).alloc _).trans (hK1.mono (fun j _ h => by rcases h with h | h; exact .inl h; exact .inr (.inr h)))
  clear hrow hownE hown0 hind c7' b1 hat
  go_wp2_with fail
  refine (indic_any gS gT B m k (put8 f (.slice (some ⟨g', 0, none⟩) (K + 1) cap')) pos k0 l c tb v s xs w1 hr1 h1 h9 hT hm (by simp at hs1; omega) hk hi1 hoT).mono ?_
  rintro e w2 ⟨rfl, g, cap, hr2, ho2, hg2, hK2⟩
  have hoE := own_kept ho1 hK2 (fun j hj => by
    simp only [Value.ownBlock, Option.some.injEq] at hj
    subst hj
    rintro (h | h)
    · exact hg' h
    · exact hg'T h)
  have hKf := hKw.trans (hK2.mono (fun j _ h => by rcases h with h | h; exact .inl h; exact .inr (.inl h)))
  clear hK2 hKw hK1 ho1 hoT
  go_wp2
  go_ret
  exact ⟨rfl, g, cap, g', cap', hr2, ho2, hoE, hKf⟩
end Go.Proofs.YbulkdnauDoor
