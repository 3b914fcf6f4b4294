/-
  THE WALK of (*yamlScanner).indicator.
-/
import Derived.Test.YbulkdnauDoorEnter
import Derived.Deep.RegionHeld3
import Derived.Deep.RegionLaw
namespace Go.Proofs.YbulkdnauDoor
open Go.RowKit

theorem Ybad.info28 : (Ybad.prog.info? 28).map (fun i => (i.zero, i.size, i.bytes)) = some (some (.agg #[.int .u8 0, .bool false, .int .i32 0, .int .i32 0, .string ⟨#[]⟩]), 5, 32) := by kernel_rfl

theorem size_setCell (w : World) (a : Addr) (v : Value) : (w.setCell a v).heap.size = w.heap.size := by simp [World.setCell]
theorem tok_block (w : World) (a b c d e : Value) : let W := w.alloc (.cells #[a, b, c, d, e] 28)
    W.cell? ⟨w.heap.size, 0, none⟩ = some a ∧ W.cell? ⟨w.heap.size, 1, none⟩ = some b ∧ W.cell? ⟨w.heap.size, 2, none⟩ = some c ∧ W.cell? ⟨w.heap.size, 3, none⟩ = some d ∧ W.cell? ⟨w.heap.size, 4, none⟩ = some e ∧ W.heap.size = w.heap.size + 1 := by
  refine ⟨?_, ?_, ?_, ?_, ?_, ?_⟩ <;> simp [go_sem]

theorem five_cells (k : Int) (tb : Bool) (l c : Int) (s : ByteArray) : ∀ u, u ∈ [Value.int .u8 k, .bool tb, .int .i32 l, .int .i32 c, .string s] → u.oneCell' = true := by
  intro u hu
  simp at hu
  rcases hu with rfl | rfl | rfl | rfl | rfl <;> rfl

theorem grown_cell {W w1 : World} {X : Obj} {gT n c : Nat} (h : (W.alloc X).drew.drew.drew.grownBy w1 (Value.slice (some ⟨gT, 0, none⟩) n c).ownBlock) {a : Addr} {v : Value} (ha : a.block ≠ gT) (hc : W.cell? a = some v) : w1.cell? a = some v := by
  have hlt := block_lt_of_cell hc
  rw [h.cell_far a (by simp; omega) (by simp [Value.ownBlock, ha])]
  exact cell_later (((Below.refl W.heap.size W).alloc (Nat.le_refl _) X).drew.drew.drew) hc
theorem grown_frozen {W w1 : World} {X : Obj} {gT n c : Nat} (h : (W.alloc X).drew.drew.drew.grownBy w1 (Value.slice (some ⟨gT, 0, none⟩) n c).ownBlock) {a : Addr} (hlt : a.block < W.heap.size) (ha : a.block ≠ gT) (hc : W.frozen? a = false) : w1.frozen? a = false := by
  rw [h.frozen_far a (by simp; omega) (by simp [Value.ownBlock, ha])]
  exact (((Below.refl W.heap.size W).alloc (Nat.le_refl _) X).frozen hlt).trans hc

/-- The scanner's row with its position and its tokens turned. -/
def put19 (f : Nat → Value) (p t : Value) (j : Nat) : Value := if j = 9 then t else if j = 1 then p else f j

theorem after_tok {gS gT B g cap m H : Nat} {f : Nat → Value} {p : Value} {xs : List Value} {w W w1 : World} {X : Obj} (hb2 : Keep (fun k => k = gS) w W) (hr2 : W.rowIs gS 32 11 (fun j => if j = 1 then p else f j))
    (hown : w1.ownsRow B 28 5 (.slice (some ⟨g, 0, none⟩) (m + 1) cap) (m + 1) xs) (hgrow : (W.alloc X).drew.drew.drew.grownBy w1 (Value.slice (some ⟨gT, 0, none⟩) m m).ownBlock) (hgS : gS ≠ gT) (hH : gS < H) (hat : (Value.slice (some ⟨gT, 0, none⟩) m m).ownBlock = some g ∨ g = H) :
    (w1.setCell ⟨gS, 9, none⟩ (.slice (some ⟨g, 0, none⟩) (m + 1) cap)).rowIs gS 32 11 (put19 f p (.slice (some ⟨g, 0, none⟩) (m + 1) cap)) ∧
      (w1.setCell ⟨gS, 9, none⟩ (.slice (some ⟨g, 0, none⟩) (m + 1) cap)).ownsRow B 28 5 (.slice (some ⟨g, 0, none⟩) (m + 1) cap) (m + 1) xs ∧ g ≠ gS ∧ Keep (fun j => j = gS ∨ j = gT) w (w1.setCell ⟨gS, 9, none⟩ (.slice (some ⟨g, 0, none⟩) (m + 1) cap)) := by
  have hlt := hr2.lt
  have hne : some gS ≠ (Value.slice (some ⟨gT, 0, none⟩) m m).ownBlock := by simp [Value.ownBlock, hgS]
  have hg : g ≠ gS := by
    rcases hat with h | h
    · simp [Value.ownBlock] at h; omega
    · omega
  have hrA : (W.alloc X).drew.drew.drew.rowIs gS 32 11 (fun j => if j = 1 then p else f j) := hr2.alloc X
  have hr1 : w1.rowIs gS 32 11 (fun j => if j = 1 then p else f j) := hrA.of_block (hgrow.block gS (by simp; omega) hne)
  refine ⟨(hr1.set 9 _).congr (fun j _ => by unfold put19; rfl), ownsRow_setCell_other hown (by simp [Value.ownBlock, hg]) _, hg, ?_⟩
  have hK : Keep (fun j => j = gS ∨ j = gT) w (W.alloc X).drew.drew.drew := ((((hb2.mono (fun k _ h => .inl h)).alloc X).drew).drew).drew
  exact (hK.grown hgrow (fun k hk => by simp [Value.ownBlock] at hk; exact .inl (.inr hk.symm))).setCell gS 9 _ (.inl (.inl rfl))

set_option maxRecDepth 100000 in
set_option maxHeartbeats 1000000 in
theorem indic_any (gS gT B m k : Nat) (f : Nat → Value) (pos : Int) (k0 l c : Int) (tb : Bool) (v s : ByteArray) (xs : List Value) (w : World) (hrow : w.rowIs gS 32 11 f) (h1 : f 1 = .int .i64 pos) (h9 : f 9 = .slice (some ⟨gT, 0, none⟩) m m)
    (hT : gT ≠ gS) (hm : m ≤ 1048576) (hB : B ≤ w.heap.size) (hk : k < 19) (hind : w.cell? ⟨0, k, none⟩ = some (.string s)) (hown0 : w.ownsRow B 28 5 (.slice (some ⟨gT, 0, none⟩) m m) m xs) :
    Calls Ybad.prog 9 #[.pointer (some ⟨gS, 0, none⟩), .agg #[.int .u8 k0, .bool tb, .int .i32 l, .int .i32 c, .string v], .int .u8 (k : Int)] w fun e w' => e = .returned .nilIface ∧ ∃ g cap, w'.rowIs gS 32 11 (put19 f (.int .i64 (wrap64 (pos + (s.size : Int)))) (.slice (some ⟨g, 0, none⟩) (m + 1) cap)) ∧
      w'.ownsRow B 28 5 (.slice (some ⟨g, 0, none⟩) (m + 1) cap) (m + 1) (xs ++ [.int .u8 (k : Int), .bool tb, .int .i32 l, .int .i32 c, .string s]) ∧ g ≠ gS ∧ Keep (fun j => j = gS ∨ j = gT) w w' := by
  obtain ⟨i0, hi, hz0, hz1, hz2⟩ := info_parts Ybad.info28
  have c1 : w.cell? ⟨gS, 1, none⟩ = some (.int .i64 pos) := by rw [hrow.cell (show 1 < 11 by omega), h1]
  have c9 : w.cell? ⟨gS, 9, none⟩ = some (.slice (some ⟨gT, 0, none⟩) m m) := by rw [hrow.cell (show 9 < 11 by omega), h9]
  have z1 := hrow.frozen 1
  have z9 := hrow.frozen 9
  have hlt := hrow.lt
  have hglt : gT < w.heap.size := (hown0.lt gT rfl).2
  have hk0 : (0 : Int) ≤ (k : Int) := by omega
  have hk1 : (k : Int) < 19 := by omega
  have b1 := fun X => (Below.refl w.heap.size w).alloc (Nat.le_refl _) X
  have hind' := fun X => cell_later (b1 X) hind
  go_enter Ybad.func9, Ybad.ntmps9
  go_wp2
  go_region
  have c1' := fun X => cell_later (b1 X) c1
  have z1' := fun X => ((b1 X).frozen (p := ⟨gS, 1, none⟩) hlt).trans z1
  clear hind hind'
  go_wp2
  go_region
  have hb2 : Keep (fun k => k = gS) w ((w.setCell ⟨gS, 1, none⟩ (.int .i64 (wrap64 (pos + (s.size : Int))))).alloc (.cells #[.int .u8 (k : Int), .bool tb, .int .i32 l, .int .i32 c, .string s] 28)) := ((Keep.refl (fun k => k = gS) w).setCell gS 1 _ (.inl rfl)).alloc _
  have hr2 : ((w.setCell ⟨gS, 1, none⟩ (.int .i64 (wrap64 (pos + (s.size : Int))))).alloc (.cells #[.int .u8 (k : Int), .bool tb, .int .i32 l, .int .i32 c, .string s] 28)).rowIs gS 32 11 (fun j => if j = 1 then .int .i64 (wrap64 (pos + (s.size : Int))) else f j) := (hrow.set 1 _).alloc _
  have ho2 := own_kept hown0 hb2 (fun j hj => by simp [Value.ownBlock] at hj; subst hj; exact hT)
  have tokc := tok_block (w.setCell ⟨gS, 1, none⟩ (.int .i64 (wrap64 (pos + (s.size : Int))))) (.int .u8 (k : Int)) (.bool tb) (.int .i32 l) (.int .i32 c) (.string s)
  rw [size_setCell] at tokc
  clear c1 c1' c9 z1 z1' z9 b1 hown0 h1
  generalize ((w.setCell ⟨gS, 1, none⟩ (.int .i64 (wrap64 (pos + (s.size : Int))))).alloc (.cells #[.int .u8 (k : Int), .bool tb, .int .i32 l, .int .i32 c, .string s] 28)) = W at hb2 hr2 ho2 tokc ⊢
  obtain ⟨t0, t1, t2, t3, t4, hWs⟩ := tokc
  have c9 : W.cell? ⟨gS, 9, none⟩ = some (.slice (some ⟨gT, 0, none⟩) m m) := by rw [hr2.cell (show 9 < 11 by omega)]; simp [h9]
  have z9 := hr2.frozen 9
  clear h9 hrow
  have bW := fun X => (Below.refl W.heap.size W).alloc (Nat.le_refl _) X
  have hltW := hr2.lt
  have n9 := fun X => cell_later (bW X) c9
  have m9 := fun X => ((bW X).frozen (p := ⟨gS, 9, none⟩) hltW).trans z9
  have n0 := fun X => cell_later (bW X) t0
  have n1 := fun X => cell_later (bW X) t1
  have n2 := fun X => cell_later (bW X) t2
  have n3 := fun X => cell_later (bW X) t3
  have n4 := fun X => cell_later (bW X) t4
  have hoA : ∀ o, (W.alloc o).drew.drew.drew.ownsRow B 28 5 (.slice (some ⟨gT, 0, none⟩) m m) m xs := fun o => ho2.alloc o
  have hnews : ∀ j u, [Value.int .u8 (k : Int), .bool tb, .int .i32 l, .int .i32 c, .string s][j]? = some u → ((W.alloc (.cells #[.int .u8 (k : Int), .bool tb, .int .i32 l, .int .i32 c, .string s] 28)).drew.drew.drew).cell? ((⟨W.heap.size, 0, none⟩ : Addr).add j) = some u :=
    fun j u hu => World.news_of_block (w := (W.alloc (.cells #[.int .u8 (k : Int), .bool tb, .int .i32 l, .int .i32 c, .string s] 28)).drew.drew.drew) (heap_alloc_new W _) j u hu
  have hgS : gS ≠ gT := fun h => hT h.symm
  have hgw : w.heap.size ≠ gT := by omega
  have HN := hnews
  rw [hWs] at HN
  clear hnews
  go_wp2
  go_region_law ((refine step_append_lies _ (by rfl) (.tmp 27) (.tmp 29) 26 (by rfl) B 28 i0 (.agg #[.int .u8 0, .bool false, .int .i32 0, .int .i32 0, .string ⟨#[]⟩]) 5 32 Ybad.underlying26 hi hz0 hz1 hz2 (by rfl) (by decide) (.slice (some ⟨gT, 0, none⟩) m m) m xs (by rfl) (hoA _) ⟨w.heap.size + 1, 0, none⟩ 1 1 [Value.int .u8 (k : Int), .bool tb, .int .i32 l, .int .i32 c, .string s] (by rfl) (by rfl) HN (five_cells _ _ _ _ _) (by decide) (by unfold maxLen; omega) (by omega) (by simp; omega) (w.heap.size + 2) (by simp [hWs]) ?_; intro g cap w1 hown1 hgrow hat hlt1; have e9 := grown_cell hgrow (a := ⟨gS, 9, none⟩) hgS c9; have y9 := grown_frozen hgrow (a := ⟨gS, 9, none⟩) hltW hgS z9; have e0 := grown_cell hgrow (a := ⟨w.heap.size, 0, none⟩) hgw t0; have e1 := grown_cell hgrow (a := ⟨w.heap.size, 1, none⟩) hgw t1; have e2 := grown_cell hgrow (a := ⟨w.heap.size, 2, none⟩) hgw t2; have e3 := grown_cell hgrow (a := ⟨w.heap.size, 3, none⟩) hgw t3; have e4 := grown_cell hgrow (a := ⟨w.heap.size, 4, none⟩) hgw t4))
  all_goals
    have hfin := after_tok (f := f) hb2 hr2 hown1 hgrow hgS (by omega) hat
    clear hown1 hgrow hat e0 e1 e2 e3 e4 e9 y9 n0 n1 n2 n3 n4 n9 m9 hoA HN bW
    go_wp2
    go_ret
    exact ⟨rfl, g, cap, hfin⟩
end Go.Proofs.YbulkdnauDoor
