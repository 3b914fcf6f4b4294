/-
  THE WALK of (*yamlScanner).enter.
-/
import Derived.Test.YbulkdnauDoorLeave
import Derived.Deep.AppendLies
namespace Go.Proofs.YbulkdnauDoor
open Go.RowKit

theorem Ybad.info3 : (Ybad.prog.info? 3).map (fun i => (i.zero, i.size, i.bytes)) = some (some (.int .i64 0), 1, 8) := by kernel_rfl

/-- The first n numbers as cells. -/
def ints (zs : Nat → Int) (n : Nat) : List Value := (List.range n).map fun j => .int .i64 (zs j)
theorem ints_length (zs : Nat → Int) (n : Nat) : (ints zs n).length = n := by simp [ints]
theorem ints_at' (zs : Nat → Int) (n j : Nat) (h : j < n) : (ints zs n)[j]? = some (.int .i64 (zs j)) := by simp [ints, h]
theorem ints_take (zs : Nat → Int) (n k : Nat) (h : k ≤ n) : (ints zs n).take k = ints zs k := by
  apply List.ext_getElem?
  intro i
  by_cases hi : i < k
  · rw [List.getElem?_take_of_lt hi, ints_at' _ _ _ (by omega), ints_at' _ _ _ hi]
  · rw [List.getElem?_eq_none (by simp [ints]; omega), List.getElem?_eq_none (by simp [ints]; omega)]

/-- A slice of one's own, cut to its first k. -/
theorem own_cut {w : World} {B g n cap k : Nat} {zs : Nat → Int} (h : w.ownsRow B 3 1 (.slice (some ⟨g, 0, none⟩) n cap) n (ints zs n)) (hk : k ≤ n) : w.ownsRow B 3 1 (.slice (some ⟨g, 0, none⟩) k cap) k (ints zs k) := by
  obtain ⟨_, h | ⟨g', cap', cur, hv, hb, hg, h1, h2, h3, h4⟩⟩ := h
  · cases h.1
  · simp only [Value.slice.injEq, Option.some.injEq, Addr.mk.injEq, and_true, true_and] at hv
    obtain ⟨rfl, rfl⟩ := hv
    refine ⟨by simp [ints_length], .inr ⟨g, cap, cur, rfl, hb, hg, by omega, h2, h3, ?_⟩⟩
    rw [Nat.mul_one] at h4 ⊢
    rw [← ints_take zs n k hk, ← h4, List.take_take, Nat.min_eq_left hk]
theorem own_kept {w w' : World} {S : Nat → Prop} {B e size n : Nat} {v : Value} {xs : List Value} (h : w.ownsRow B e size v n xs) (hK : Keep S w w') (hs : ∀ k, v.ownBlock = some k → ¬ S k) : w'.ownsRow B e size v n xs := by
  obtain ⟨hl, h | ⟨g, cap, cur, rfl, hb, hg, h1, h2, h3, h4⟩⟩ := h
  · exact ⟨hl, .inl h⟩
  · obtain ⟨hlt, _⟩ := Array.getElem?_eq_some_iff.1 hg
    exact ⟨hl, .inr ⟨g, cap, cur, rfl, hb, (hK.block g hlt (hs g rfl)).trans hg, h1, h2, h3, h4⟩⟩

theorem one_new (w : World) (v : Value) (t : TypeId) : ∀ j u, [v][j]? = some u → (w.alloc (.cells #[v] t)).cell? ((⟨w.heap.size, 0, none⟩ : Addr).add j) = some u := by
  intro j u hj
  match j, hj with
  | 0, hj => simp at hj; subst hj; simp [Addr.add]
theorem one_cell (c : Int) : ∀ u, u ∈ [Value.int .i64 c] → u.oneCell' = true := by
  intro u hu; simp at hu; subst hu; rfl

theorem put8_put8 (f : Nat → Value) (u v : Value) (j : Nat) : put8 (put8 f u) v j = put8 f v j := by
  unfold put8; split <;> rfl

/-- What an append and the store of its result leave of the scanner. -/
theorem after_append {gS B g cap n : Nat} {f : Nat → Value} {v : Value} {xs : List Value} {S : Nat → Prop} {w0 w w2 : World} {o : Obj} (hrow : w.rowIs gS 32 11 f) (hK : Keep S w0 w) (hS : S gS)
    (hown : w2.ownsRow B 3 1 (.slice (some ⟨g, 0, none⟩) n cap) n xs) (hgrow : (w.alloc o).grownBy w2 v.ownBlock) (hv : ∀ k, v.ownBlock = some k → k ≠ gS ∧ (S k ∨ w0.heap.size ≤ k)) (hat : v.ownBlock = some g ∨ g = w.heap.size + 1) :
    (w2.setCell ⟨gS, 8, none⟩ (.slice (some ⟨g, 0, none⟩) n cap)).rowIs gS 32 11 (put8 f (.slice (some ⟨g, 0, none⟩) n cap)) ∧ (w2.setCell ⟨gS, 8, none⟩ (.slice (some ⟨g, 0, none⟩) n cap)).ownsRow B 3 1 (.slice (some ⟨g, 0, none⟩) n cap) n xs ∧ g ≠ gS ∧ (v.ownBlock = some g ∨ w0.heap.size ≤ g) ∧
      Keep S w0 (w2.setCell ⟨gS, 8, none⟩ (.slice (some ⟨g, 0, none⟩) n cap)) := by
  have hlt := hrow.lt
  have hne : some gS ≠ v.ownBlock := fun e => (hv gS e.symm).1 rfl
  have hg : g ≠ gS := by
    rcases hat with h | h
    · exact (hv g h).1
    · omega
  have hr2 : w2.rowIs gS 32 11 f := (hrow.alloc o).of_block (hgrow.block gS (by simp; omega) hne)
  refine ⟨(hr2.set 8 _).congr (fun j _ => by unfold put8; rfl), ownsRow_setCell_other hown (by simp [Value.ownBlock, hg]) _, hg, (by rcases hat with h | h; exact .inl h; exact .inr (by have := hK.size; omega)), ?_⟩
  exact ((hK.alloc o).grown hgrow (fun k hk => (hv k hk).2)).setCell gS 8 _ (.inl hS)

set_option maxRecDepth 100000 in
set_option maxHeartbeats 1000000 in
theorem enter_nil (gS B : Nat) (f : Nat → Value) (col : Int) (w : World) (hrow : w.rowIs gS 32 11 f) (h8 : f 8 = .slice none 0 0) (hB : B ≤ w.heap.size) :
    Calls Ybad.prog 8 #[.pointer (some ⟨gS, 0, none⟩), .int .i64 col] w fun e w' => e = .returned (.tuple #[]) ∧ ∃ g cap, w'.rowIs gS 32 11 (put8 f (.slice (some ⟨g, 0, none⟩) 1 cap)) ∧
      w'.ownsRow B 3 1 (.slice (some ⟨g, 0, none⟩) 1 cap) 1 [.int .i64 col] ∧ g ≠ gS ∧ ((Value.slice none 0 0).ownBlock = some g ∨ w.heap.size ≤ g) ∧ Keep (fun k => k = gS) w w' := by
  obtain ⟨i0, hi, hz0, hz1, hz2⟩ := info_parts Ybad.info3
  have c8 : w.cell? ⟨gS, 8, none⟩ = some (.slice none 0 0) := by rw [hrow.cell (show 8 < 11 by omega), h8]
  have z8 := hrow.frozen 8
  have hlt := hrow.lt
  go_enter Ybad.func8, Ybad.ntmps8
  go_wp2_with fail
  refine (leave_nil gS f _ _ hrow h8).mono ?_
  rintro e w1 ⟨rfl, q, rfl⟩
  go_wp2_with (at_builtin; refine wpList_append_lies _ rfl (.tmp 12) (.tmp 14) 22 rfl B 3 i0 (.int .i64 0) 1 8 Ybad.underlying22 hi hz0 hz1 hz2 rfl (by decide) (.slice none 0 0) 0 [] rfl (World.ownsRow_nil _ _ _ _) ⟨w.heap.size, 0, none⟩ 1 1 [.int .i64 col] rfl rfl ?hnews ?h1 (by decide) ?h63 ?hbytes ?hbase (w.heap.size + 1) ?hH ?hw)
  case hnews => exact one_new (w.drewN q) _ 3
  case h1 => exact one_cell col
  case h63 => unfold maxLen; omega
  case hbytes => omega
  case hbase => simp; omega
  case hH => simp
  case hw =>
    intro g cap w2 hown hgrow hat hlt2
    have k8 : w2.cell? ⟨gS, 8, none⟩ = some (.slice none 0 0) := by
      rw [hgrow.cell_far ⟨gS, 8, none⟩ (by simp; omega) (by simp [Value.ownBlock]), ((Below.refl w.heap.size (w.drewN q)).alloc (Nat.le_refl _) _).cell (by exact hlt)]
      exact c8
    have kz : w2.frozen? ⟨gS, 8, none⟩ = false := by
      rw [hgrow.frozen_far ⟨gS, 8, none⟩ (by simp; omega) (by simp [Value.ownBlock]), ((Below.refl w.heap.size (w.drewN q)).alloc (Nat.le_refl _) _).frozen (by exact hlt)]
      exact z8
    have hfin := after_append (f := f) (S := fun k => k = gS) (w0 := w) (show (w.drewN q).rowIs gS 32 11 f from hrow) ((Keep.refl _ _).drewN q) rfl hown hgrow (fun k hk => by simp [Value.ownBlock] at hk) hat
    clear hgrow hown hat hrow h8 c8 z8
    go_wp2
    go_end0
    exact ⟨rfl, g, cap, hfin⟩

set_option maxRecDepth 100000 in
set_option maxHeartbeats 1000000 in
theorem enter_some (gS g B n cap : Nat) (zs : Nat → Int) (f : Nat → Value) (col : Int) (w : World) (hrow : w.rowIs gS 32 11 f) (h8 : f 8 = .slice (some ⟨g, 0, none⟩) n cap) (hg : g ≠ gS) (hn : n ≤ 1048576) (hB : B ≤ w.heap.size)
    (hown0 : w.ownsRow B 3 1 (.slice (some ⟨g, 0, none⟩) n cap) n (ints zs n)) (hnc : n ≤ cap) (K : Nat) (hKk : K = keep zs (wrap64 (col - 1)) n) :
    Calls Ybad.prog 8 #[.pointer (some ⟨gS, 0, none⟩), .int .i64 col] w fun e w' => e = .returned (.tuple #[]) ∧ ∃ g' cap', w'.rowIs gS 32 11 (put8 f (.slice (some ⟨g', 0, none⟩) (K + 1) cap')) ∧
      w'.ownsRow B 3 1 (.slice (some ⟨g', 0, none⟩) (K + 1) cap') (K + 1) (ints zs K ++ [.int .i64 col]) ∧ g' ≠ gS ∧ ((Value.slice (some ⟨g, 0, none⟩) K cap).ownBlock = some g' ∨ w.heap.size ≤ g') ∧ Keep (fun k => k = gS ∨ k = g) w w' := by
  obtain ⟨i0, hi, hz0, hz1, hz2⟩ := info_parts Ybad.info3
  have hKn : K ≤ n := by rw [hKk]; exact keep_le _ _ _
  have HK : Hid (K = keep zs (wrap64 (col - 1)) n) := hKk
  clear hKk
  have hlt := hrow.lt
  have hz : ∀ j, j < n → w.cell? ⟨g, j, none⟩ = some (.int .i64 (zs j)) := fun j hj => by rw [hown0.cellAt j (by omega), ints_at' _ _ _ hj]
  have hglt : g < w.heap.size := (hown0.lt g rfl).2
  go_enter Ybad.func8, Ybad.ntmps8
  go_wp2_with fail
  refine (leave_some gS g n cap zs f _ w hrow h8 hg hnc hn hz).mono ?_
  rintro e w1 ⟨rfl, hr1, hK1⟩
  rw [← HK.out] at hr1
  have ho1 := own_cut (own_kept hown0 hK1 (fun k hk => by simp [Value.ownBlock] at hk; subst hk; exact hg)) hKn
  have c8 : w1.cell? ⟨gS, 8, none⟩ = some (.slice (some ⟨g, 0, none⟩) K cap) := by rw [hr1.cell (show 8 < 11 by omega)]; rfl
  have z8 := hr1.frozen 8
  have hlt1 := hr1.lt
  have hsz1 := hK1.size
  clear hown0 hz h8
  go_wp2_with (at_builtin; refine wpList_append_lies _ rfl (.tmp 12) (.tmp 14) 22 rfl B 3 i0 (.int .i64 0) 1 8 Ybad.underlying22 hi hz0 hz1 hz2 rfl (by decide) (.slice (some ⟨g, 0, none⟩) K cap) K (ints zs K) rfl (ho1.alloc _) ⟨w1.heap.size, 0, none⟩ 1 1 [.int .i64 col] rfl rfl ?hnews ?h1 (by decide) ?h63 ?hbytes ?hbase (w1.heap.size + 1) ?hH ?hw)
  case hnews => exact one_new w1 _ 3
  case h1 => exact one_cell col
  case h63 => unfold maxLen; omega
  case hbytes => omega
  case hbase => simp; omega
  case hH => simp
  case hw =>
    intro g' cap' w2 hown hgrow hat hlt2
    have k8 : w2.cell? ⟨gS, 8, none⟩ = some (.slice (some ⟨g, 0, none⟩) K cap) := by
      rw [hgrow.cell_far ⟨gS, 8, none⟩ (by simp; omega) (by simp [Value.ownBlock]; omega), ((Below.refl w1.heap.size w1).alloc (Nat.le_refl _) _).cell hlt1]
      exact c8
    have kz : w2.frozen? ⟨gS, 8, none⟩ = false := by
      rw [hgrow.frozen_far ⟨gS, 8, none⟩ (by simp; omega) (by simp [Value.ownBlock]; omega), ((Below.refl w1.heap.size w1).alloc (Nat.le_refl _) _).frozen hlt1]
      exact z8
    have hfin := after_append (f := put8 f (.slice (some ⟨g, 0, none⟩) K cap)) (S := fun k => k = gS ∨ k = g) (w0 := w) hr1 (hK1.mono (fun k _ h => .inl h)) (.inl rfl) hown hgrow (fun k hk => by simp [Value.ownBlock] at hk; subst hk; exact ⟨hg, .inl (.inr rfl)⟩) hat
    clear hgrow hown hat hrow hr1 c8 z8 ho1
    go_wp2
    go_end0
    exact ⟨rfl, g', cap', hfin.1.congr (fun j _ => put8_put8 f _ _ j), hfin.2⟩

/-- Whatever the entries: nil or of one's own. -/
theorem enter_any (gS B n : Nat) (v : Value) (zs : Nat → Int) (f : Nat → Value) (col : Int) (w : World) (hrow : w.rowIs gS 32 11 f) (h8 : f 8 = v) (hv : v.ownBlock ≠ some gS) (hn : n ≤ 1048576) (hB : B ≤ w.heap.size)
    (hown : w.ownsRow B 3 1 v n (ints zs n)) (K : Nat) (hK : K = keep zs (wrap64 (col - 1)) n) :
    Calls Ybad.prog 8 #[.pointer (some ⟨gS, 0, none⟩), .int .i64 col] w fun e w' => e = .returned (.tuple #[]) ∧ ∃ g' cap', w'.rowIs gS 32 11 (put8 f (.slice (some ⟨g', 0, none⟩) (K + 1) cap')) ∧
      w'.ownsRow B 3 1 (.slice (some ⟨g', 0, none⟩) (K + 1) cap') (K + 1) (ints zs K ++ [.int .i64 col]) ∧ g' ≠ gS ∧ (v.ownBlock = some g' ∨ w.heap.size ≤ g') ∧ Keep (fun k => k = gS ∨ v.ownBlock = some k) w w' := by
  have hown' := hown
  obtain ⟨_, ⟨rfl, rfl⟩ | ⟨g, cap, cur, rfl, hb, hg, h1, h2, h3, h4⟩⟩ := hown
  · subst hK
    refine (enter_nil gS B f col w hrow h8 hB).mono ?_
    rintro e w' ⟨rfl, g, cap, hr, ho, hg, ha, hk⟩
    exact ⟨rfl, g, cap, hr, ho, hg, ha, hk.mono (fun k _ h => .inl h)⟩
  · have hgS : g ≠ gS := by simpa [Value.ownBlock] using hv
    refine (enter_some gS g B n cap zs f col w hrow h8 hgS hn hB hown' h1 K hK).mono ?_
    rintro e w' ⟨rfl, g', cap', hr, ho, hg', ha, hk⟩
    exact ⟨rfl, g', cap', hr, ho, hg', ha, hk.mono (fun k _ h => (by rcases h with h | h; exact .inl h; exact .inr (by rw [h]; rfl)))⟩
end Go.Proofs.YbulkdnauDoor
