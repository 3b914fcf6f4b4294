/-
  WHAT LIES IN MEMORY AT THE HEAD OF THE LAW's THIRD LOOP, and what each of its stores does to it.
-/
import Derived.Test.YbulkdmzsWalkC
namespace Go.Proofs.Ybulkdmzs
open Go.RowKit

/-- Key j has been laid. -/
def KeyIn (w : World) (gN : Nat) (lb : Nat → Nat) (sz : Nat → Option Int) (j : Nat) : Prop :=
  ∃ a c, w.cell? ⟨gN + 1, j * 2, none⟩ = some (.slice a (lb j) c) ∧ ((sz j = none ∧ w.cell? ⟨gN + 1, j * 2 + 1, none⟩ = some (.pointer none)) ∨
    ∃ s ob, sz j = some s ∧ gN + 2 < ob ∧ w.cell? ⟨gN + 1, j * 2 + 1, none⟩ = some (.pointer (some ⟨ob, 0, none⟩)) ∧ w.cell? ⟨ob, 0, none⟩ = some (.int .i64 s))

/-- kk keys and kv values have been laid. -/
structure Mid (gN : Nat) (leaf : Bool) (L : Nat) (lb : Nat → Nat) (sz : Nat → Option Int) (lv : Nat → Nat) (kk kv : Nat) (w : World) : Prop where
  c0 : w.cell? ⟨gN, 0, none⟩ = some (.bool leaf)
  c1 : w.cell? ⟨gN, 1, none⟩ = some (.slice (some ⟨gN + 1, 0, none⟩) L L)
  keys : ∃ F, w.rowIs (gN + 1) 34 (L * 2) F
  done : ∀ j, j < kk → KeyIn w gN lb sz j
  vals : leaf = true → w.cell? ⟨gN, 2, none⟩ = some (.slice (some ⟨gN + 2, 0, none⟩) L L) ∧ ∃ G : Nat → Value, w.rowIs (gN + 2) 24 L G ∧ ∀ j, j < kv → ∃ a c, G j = .slice a (lv j) c

section
variable {gN : Nat} {leaf : Bool} {L : Nat} {lb : Nat → Nat} {sz : Nat → Option Int} {lv : Nat → Nat} {kk kv : Nat} {w : World}

theorem Mid.later {w' : World} (h : Mid gN leaf L lb sz lv kk kv w) (hb : Below w.heap.size w w') : Mid gN leaf L lb sz lv kk kv w' := by
  obtain ⟨c0, c1, ⟨F, hF⟩, hd, hv⟩ := h
  refine ⟨cell_later hb c0, cell_later hb c1, ⟨F, hF.of_block (hb.block _ hF.lt)⟩, fun j hj => ?_, fun hl => ?_⟩
  · obtain ⟨a, c, h0, h1⟩ := hd j hj
    refine ⟨a, c, cell_later hb h0, ?_⟩
    rcases h1 with ⟨e, h1⟩ | ⟨s, ob, e, ho, h1, h2⟩
    · exact .inl ⟨e, cell_later hb h1⟩
    · exact .inr ⟨s, ob, e, ho, cell_later hb h1, cell_later hb h2⟩
  · obtain ⟨c2, G, hG, hg⟩ := hv hl
    exact ⟨cell_later hb c2, G, hG.of_block (hb.block _ hG.lt), hg⟩

theorem cell_set_other (w : World) (g i : Nat) (v : Value) (a : Addr) (h : a.block ≠ g ∨ a.off ≠ i) : (w.setCell ⟨g, i, none⟩ v).cell? a = w.cell? a := by
  refine World.cell?_setCell_other w _ _ v ?_
  intro e
  subst e
  rcases h with h | h <;> exact h rfl

/-- The key's two cells are stored. -/
theorem Mid.key (h : Mid gN leaf L lb sz lv kk kv w) (hk : kk < L) (a : Option Addr) (c : Nat) (p : Value)
    (hp : (sz kk = none ∧ p = .pointer none) ∨ ∃ s ob, sz kk = some s ∧ gN + 2 < ob ∧ p = .pointer (some ⟨ob, 0, none⟩) ∧ w.cell? ⟨ob, 0, none⟩ = some (.int .i64 s)) :
    Mid gN leaf L lb sz lv (kk + 1) kv ((w.setCell ⟨gN + 1, kk * 2, none⟩ (.slice a (lb kk) c)).setCell ⟨gN + 1, kk * 2 + 1, none⟩ p) := by
  obtain ⟨c0, c1, ⟨F, hF⟩, hd, hv⟩ := h
  have hF1 := hF.set (kk * 2) (.slice a (lb kk) c)
  have hF2 := hF1.set (kk * 2 + 1) p
  have oth : ∀ x : Addr, x.block ≠ gN + 1 → ((w.setCell ⟨gN + 1, kk * 2, none⟩ (.slice a (lb kk) c)).setCell ⟨gN + 1, kk * 2 + 1, none⟩ p).cell? x = w.cell? x := fun x hx => by
    rw [cell_set_other _ _ _ _ _ (.inl hx), cell_set_other _ _ _ _ _ (.inl hx)]
  refine ⟨(oth _ (by show gN ≠ gN + 1; omega)).trans c0, (oth _ (by show gN ≠ gN + 1; omega)).trans c1, ⟨_, hF2⟩, fun j hj => ?_, fun hl => ?_⟩
  · by_cases e : j = kk
    · subst e
      refine ⟨a, c, ?_, ?_⟩
      · rw [hF2.cell (show j * 2 < L * 2 by omega)]
        simp only [show ¬ j * 2 = j * 2 + 1 by omega, if_false, if_true]
      · have e1 : ((w.setCell ⟨gN + 1, j * 2, none⟩ (.slice a (lb j) c)).setCell ⟨gN + 1, j * 2 + 1, none⟩ p).cell? ⟨gN + 1, j * 2 + 1, none⟩ = some p := by
          rw [hF2.cell (show j * 2 + 1 < L * 2 by omega)]
          simp only [if_true]
        rcases hp with ⟨e, rfl⟩ | ⟨s, ob, e, ho, rfl, hc⟩
        · exact .inl ⟨e, e1⟩
        · exact .inr ⟨s, ob, e, ho, e1, (oth _ (by show ob ≠ gN + 1; omega)).trans hc⟩
    · obtain ⟨a', c', h0, h1⟩ := hd j (by omega)
      have ne : ∀ o, o ≠ kk * 2 → o ≠ kk * 2 + 1 → ((w.setCell ⟨gN + 1, kk * 2, none⟩ (.slice a (lb kk) c)).setCell ⟨gN + 1, kk * 2 + 1, none⟩ p).cell? ⟨gN + 1, o, none⟩ = w.cell? ⟨gN + 1, o, none⟩ := fun o h1 h2 => by
        rw [cell_set_other _ _ _ _ _ (.inr h2), cell_set_other _ _ _ _ _ (.inr h1)]
      refine ⟨a', c', (ne _ (by omega) (by omega)).trans h0, ?_⟩
      rcases h1 with ⟨e, h1⟩ | ⟨s, ob, e, ho, h1, h2⟩
      · exact .inl ⟨e, (ne _ (by omega) (by omega)).trans h1⟩
      · exact .inr ⟨s, ob, e, ho, (ne _ (by omega) (by omega)).trans h1, (oth _ (by show ob ≠ gN + 1; omega)).trans h2⟩
  · obtain ⟨c2, G, hG, hg⟩ := hv hl
    exact ⟨(oth _ (by show gN ≠ gN + 1; omega)).trans c2, G, (hG.setOther (by show gN + 2 ≠ gN + 1; omega) _).setOther (by show gN + 2 ≠ gN + 1; omega) _, hg⟩

/-- The value's cell is stored. -/
theorem Mid.val (h : Mid gN true L lb sz lv kk kv w) (a : Option Addr) (c : Nat) : Mid gN true L lb sz lv kk (kv + 1) (w.setCell ⟨gN + 2, kv, none⟩ (.slice a (lv kv) c)) := by
  obtain ⟨c0, c1, ⟨F, hF⟩, hd, hv⟩ := h
  have oth : ∀ x : Addr, x.block ≠ gN + 2 → (w.setCell ⟨gN + 2, kv, none⟩ (.slice a (lv kv) c)).cell? x = w.cell? x := fun x hx => cell_set_other _ _ _ _ _ (.inl hx)
  obtain ⟨c2, G, hG, hg⟩ := hv rfl
  refine ⟨(oth _ (by show gN ≠ gN + 2; omega)).trans c0, (oth _ (by show gN ≠ gN + 2; omega)).trans c1, ⟨F, hF.setOther (by show gN + 1 ≠ gN + 2; omega) _⟩, fun j hj => ?_, fun _ => ⟨(oth _ (by show gN ≠ gN + 2; omega)).trans c2, _, hG.set kv _, fun j hj => ?_⟩⟩
  · obtain ⟨a', c', h0, h1⟩ := hd j hj
    refine ⟨a', c', (oth _ (by show gN + 1 ≠ gN + 2; omega)).trans h0, ?_⟩
    rcases h1 with ⟨e, h1⟩ | ⟨s, ob, e, ho, h1, h2⟩
    · exact .inl ⟨e, (oth _ (by show gN + 1 ≠ gN + 2; omega)).trans h1⟩
    · exact .inr ⟨s, ob, e, ho, (oth _ (by show gN + 1 ≠ gN + 2; omega)).trans h1, (oth _ (by show ob ≠ gN + 2; omega)).trans h2⟩
  · by_cases e : j = kv
    · subst e; exact ⟨a, c, if_pos rfl⟩
    · obtain ⟨a', c', he⟩ := hg j (by omega)
      exact ⟨a', c', by show (if j = kv then _ else _) = _; rw [if_neg e, he]⟩
theorem Mid.val' (h : Mid gN true L lb sz lv kk kv w) (a : Option Addr) (n c : Nat) (hn : lv kv = n) : Mid gN true L lb sz lv kk (kv + 1) (w.setCell ⟨gN + 2, kv, none⟩ (.slice a n c)) := by
  subst hn; exact h.val a c
theorem Mid.drewN (h : Mid gN leaf L lb sz lv kk kv w) (n : Nat) : Mid gN leaf L lb sz lv kk kv (w.drewN n) := h.later ⟨rfl, rfl, rfl, Nat.le_refl _, fun _ _ => rfl⟩
theorem Mid.skip (h : Mid gN false L lb sz lv kk kv w) (kv' : Nat) : Mid gN false L lb sz lv kk kv' w := ⟨h.c0, h.c1, h.keys, h.done, fun e => by cases e⟩

theorem Mid.ents (h : Mid gN leaf L lb sz lv L L w) (hlv : ∀ j, j < L → lv j ≤ 9223372036854775807) : Ents w gN leaf L lb sz lv := by
  refine ⟨gN + 1, h.c0, h.c1, fun j hj => ?_, fun hl => ?_⟩
  · obtain ⟨a, c, h0, h1⟩ := h.done j hj
    refine ⟨a, c, h0, ?_⟩
    rcases h1 with ⟨e, h1⟩ | ⟨s, ob, e, _, h1, h2⟩
    · exact .inl ⟨e, h1⟩
    · exact .inr ⟨s, ob, e, h1, h2⟩
  · obtain ⟨c2, G, hG, hg⟩ := h.vals hl
    refine ⟨gN + 2, c2, fun j hj => ⟨hlv j hj, ?_⟩⟩
    obtain ⟨a, c, e⟩ := hg j hj
    exact ⟨a, c, by rw [hG.cell hj, e]⟩
end

theorem vlen_w (n : Int) (w : World) : Calls Yba.prog 4 #[.int .u64 (IntKind.u64.wrap n)] w fun e w' => e = .returned (.int .i64 (vl (U n) : Int)) ∧ w' = w := by
  rw [U_wrap]; exact vlen_any (U n) w (U_lt n)

/-- The world when key k has been laid: a short one, a long one. -/
def stS (w : World) (g k : Nat) (a : Option Addr) (l c : Nat) (s : Int) : World :=
  (((w.alloc (.cells #[.slice a l c, .bool false, .int .i64 s] 26)).alloc (.cells #[.slice a l c, .pointer none] 34)).setCell ⟨g + 1, k * 2, none⟩ (.slice a l c)).setCell ⟨g + 1, k * 2 + 1, none⟩ (.pointer none)
def stL (w : World) (g k : Nat) (a : Option Addr) (l c : Nat) (s : Int) : World :=
  ((((w.alloc (.cells #[.slice a l c, .bool true, .int .i64 s] 26)).alloc (.cells #[.slice a l c, .pointer (some ⟨w.heap.size + 2, 0, none⟩)] 34)).alloc (.cells #[.int .i64 s, .int .i64 1] 37)).setCell ⟨g + 1, k * 2, none⟩ (.slice a l c)).setCell ⟨g + 1, k * 2 + 1, none⟩ (.pointer (some ⟨w.heap.size + 2, 0, none⟩))

theorem below2 (w : World) (X Y : Obj) : Below w.heap.size w ((w.alloc X).alloc Y) := ((Below.refl _ _).alloc (Nat.le_refl _) _).alloc (by simp) _
theorem below3 (w : World) (X Y Z : Obj) : Below w.heap.size w (((w.alloc X).alloc Y).alloc Z) := (below2 w X Y).alloc (by simp; omega) _

theorem stS_facts {gN : Nat} {leaf : Bool} {L : Nat} {lb : Nat → Nat} {sz : Nat → Option Int} {lv : Nat → Nat} {k : Nat} {w : World} (W0 : World) (hW : Below gN W0 w) (h : Mid gN leaf L lb sz lv k k w) (hk : k < L) (hg : gN + 1 < w.heap.size)
    (a : Option Addr) (c : Nat) (s : Int) (hs : sz k = none) :
    Mid gN leaf L lb sz lv (k + 1) k (stS w gN k a (lb k) c s) ∧ Below gN W0 (stS w gN k a (lb k) c s) ∧ (stS w gN k a (lb k) c s).heap.size = w.heap.size + 2 ∧ (stS w gN k a (lb k) c s).cell? ⟨w.heap.size, 0, none⟩ = some (.slice a (lb k) c) ∧ (stS w gN k a (lb k) c s).cell? ⟨w.heap.size, 1, none⟩ = some (.bool false) := by
  refine ⟨(h.later (below2 w _ _)).key hk a c (.pointer none) (.inl ⟨hs, rfl⟩), ?_, ?_, ?_, ?_⟩
  · exact ((((hW.alloc (by omega) _).alloc (by simp; omega) _).setCell (by show gN ≤ gN + 1; omega) _).setCell (by show gN ≤ gN + 1; omega) _)
  · simp [stS, World.setCell]
  · unfold stS
    rw [cell_set_other _ _ _ _ _ (.inl (by show w.heap.size ≠ gN + 1; omega)), cell_set_other _ _ _ _ _ (.inl (by show w.heap.size ≠ gN + 1; omega))]
    simp [go_sem]
  · unfold stS
    rw [cell_set_other _ _ _ _ _ (.inl (by show w.heap.size ≠ gN + 1; omega)), cell_set_other _ _ _ _ _ (.inl (by show w.heap.size ≠ gN + 1; omega))]
    simp [go_sem]
theorem stL_facts {gN : Nat} {leaf : Bool} {L : Nat} {lb : Nat → Nat} {sz : Nat → Option Int} {lv : Nat → Nat} {k : Nat} {w : World} (W0 : World) (hW : Below gN W0 w) (h : Mid gN leaf L lb sz lv k k w) (hk : k < L) (hg : gN + 1 < w.heap.size)
    (a : Option Addr) (c : Nat) (s : Int) (hs : sz k = some s) :
    Mid gN leaf L lb sz lv (k + 1) k (stL w gN k a (lb k) c s) ∧ Below gN W0 (stL w gN k a (lb k) c s) ∧ (stL w gN k a (lb k) c s).heap.size = w.heap.size + 3 ∧ (stL w gN k a (lb k) c s).cell? ⟨w.heap.size, 0, none⟩ = some (.slice a (lb k) c) ∧ (stL w gN k a (lb k) c s).cell? ⟨w.heap.size, 1, none⟩ = some (.bool true) := by
  refine ⟨(h.later (below3 w _ _ _)).key hk a c (.pointer (some ⟨w.heap.size + 2, 0, none⟩)) (.inr ⟨s, w.heap.size + 2, hs, by omega, rfl, by simp [go_sem]⟩), ?_, ?_, ?_, ?_⟩
  · exact (((((hW.alloc (by omega) _).alloc (by simp; omega) _).alloc (by simp; omega) _).setCell (by show gN ≤ gN + 1; omega) _).setCell (by show gN ≤ gN + 1; omega) _)
  · simp [stL, World.setCell]
  · unfold stL
    rw [cell_set_other _ _ _ _ _ (.inl (by show w.heap.size ≠ gN + 1; omega)), cell_set_other _ _ _ _ _ (.inl (by show w.heap.size ≠ gN + 1; omega))]
    simp [go_sem]
  · unfold stL
    rw [cell_set_other _ _ _ _ _ (.inl (by show w.heap.size ≠ gN + 1; omega)), cell_set_other _ _ _ _ _ (.inl (by show w.heap.size ≠ gN + 1; omega))]
    simp [go_sem]

/-! ### The law's own sum, round by round, as the walk spells it -/
theorem want_bs {e : Nat → Int} {k : Nat} {b x : Int} {lb lv : Nat} (hx : x = wrap64 (b + sm e k)) (he : e k = E false lb none lv) :
    wrap64 (wrap64 (x + wrap64 ((vl (U (lb : Int)) : Int) + (lb : Int))) + 7) = wrap64 (b + sm e (k + 1)) := by
  rw [sm, he, hx]
  simp only [E, K, Option.getD_none, Option.isSome_none, Bool.false_eq_true, if_false]
  unfold wrap64; omega
theorem want_bl {e : Nat → Int} {k : Nat} {b x s : Int} {lb lv : Nat} (hx : x = wrap64 (b + sm e k)) (he : e k = E false lb (some s) lv) :
    wrap64 (wrap64 (wrap64 (x + wrap64 ((vl (U s) : Int) + (lb : Int))) + 7) + 7) = wrap64 (b + sm e (k + 1)) := by
  rw [sm, he, hx]
  simp only [E, K, Option.getD_some, Option.isSome_some, if_true, Bool.false_eq_true, if_false]
  unfold wrap64; omega
theorem want_ls {e : Nat → Int} {k : Nat} {b x : Int} {lb lv : Nat} (hx : x = wrap64 (b + sm e k)) (he : e k = E true lb none lv) :
    wrap64 (wrap64 (x + wrap64 ((vl (U (lb : Int)) : Int) + (lb : Int))) + wrap64 ((vl lv : Int) + (lv : Int))) = wrap64 (b + sm e (k + 1)) := by
  rw [sm, he, hx]
  simp only [E, K, Option.getD_none, Option.isSome_none, Bool.false_eq_true, if_false, if_true]
  unfold wrap64; omega
theorem want_ll {e : Nat → Int} {k : Nat} {b x s : Int} {lb lv : Nat} (hx : x = wrap64 (b + sm e k)) (he : e k = E true lb (some s) lv) :
    wrap64 (wrap64 (wrap64 (x + wrap64 ((vl (U s) : Int) + (lb : Int))) + 7) + wrap64 ((vl lv : Int) + (lv : Int))) = wrap64 (b + sm e (k + 1)) := by
  rw [sm, he, hx]
  simp only [E, K, Option.getD_some, Option.isSome_some, if_true]
  unfold wrap64; omega
theorem vl_zero : ((vl 0 : Nat) : Int) = 1 := rfl
theorem want_ls0 {e : Nat → Int} {k : Nat} {b x : Int} {lb : Nat} (hx : x = wrap64 (b + sm e k)) (he : e k = E true lb none 0) :
    wrap64 (wrap64 (x + wrap64 ((vl (U (lb : Int)) : Int) + (lb : Int))) + 1) = wrap64 (b + sm e (k + 1)) := by
  rw [sm, he, hx]
  simp only [E, K, Option.getD_none, Option.isSome_none, Bool.false_eq_true, if_false, if_true, vl_zero]
  unfold wrap64; omega
theorem want_ll0 {e : Nat → Int} {k : Nat} {b x s : Int} {lb : Nat} (hx : x = wrap64 (b + sm e k)) (he : e k = E true lb (some s) 0) :
    wrap64 (wrap64 (wrap64 (x + wrap64 ((vl (U s) : Int) + (lb : Int))) + 7) + 1) = wrap64 (b + sm e (k + 1)) := by
  rw [sm, he, hx]
  simp only [E, K, Option.getD_some, Option.isSome_some, if_true, vl_zero]
  unfold wrap64; omega

theorem Yba.info34 : (Yba.prog.info? 34).map (fun i => (i.zero, i.size, i.bytes)) = some (some (.agg #[.slice none 0 0, .pointer none]), 2, 32) := by kernel_rfl
theorem Yba.info24 : (Yba.prog.info? 24).map (fun i => (i.zero, i.size, i.bytes)) = some (some (.slice none 0 0), 1, 24) := by kernel_rfl

theorem make_keys (L : Nat) (hL : L * 32 ≤ 140737488355328) (w : World) : (Instr.makeSlice 28 (.int .i64 (L : Int)) (.int .i64 (L : Int))).run Yba.prog w =
    .ok (.slice (some ⟨w.heap.size, 0, none⟩) L L) (w.alloc (.cells (madeCells #[.slice none 0 0, .pointer none] (L * 2)) 34)) := by
  obtain ⟨i, hi, hzz⟩ := Option.map_eq_some_iff.1 Yba.info34
  simp only [Prod.mk.injEq] at hzz
  obtain ⟨hz, hs, hb⟩ := hzz
  have hr := run_make (P := Yba.prog) w 28 34 i _ Yba.underlying28 hi hz .i64 .i64 L L (by omega) (Int.le_refl _) (by rw [hb]; omega) (by omega)
  rw [hs] at hr
  exact hr
theorem vlen_zero (w : World) : Calls Yba.prog 4 #[.int .u64 0] w fun e w' => e = .returned (.int .i64 1) ∧ w' = w := vlen_any 0 w (by omega)

/-- The loop's start. -/
theorem mid_branch (w : World) (L : Nat) (lb : Nat → Nat) (sz : Nat → Option Int) (lv : Nat → Nat) :
    Mid w.heap.size false L lb sz lv 0 0 ((w.alloc (.cells #[.bool false, .slice (some ⟨w.heap.size + 1, 0, none⟩) L L, .slice none 0 0, .slice none 0 0] 31)).alloc (.cells (madeCells #[.slice none 0 0, .pointer none] (L * 2)) 34)) := by
  refine ⟨by simp [go_sem], by simp [go_sem], ?_, fun j hj => by omega, fun e => by cases e⟩
  refine ⟨fun i => (madeCells #[.slice none 0 0, .pointer none] (L * 2)).getD i undef, ?_⟩
  have := World.rowIs_alloc (w.alloc (.cells #[.bool false, .slice (some ⟨w.heap.size + 1, 0, none⟩) L L, .slice none 0 0, .slice none 0 0] 31)) (madeCells #[.slice none 0 0, .pointer none] (L * 2)) 34 (fun i => (madeCells #[.slice none 0 0, .pointer none] (L * 2)).getD i undef) (fun i hi => by simp [Array.getD, hi])
  rw [size_madeCells, World.size_alloc] at this
  exact this
theorem mid_leaf (w : World) (L : Nat) (lb : Nat → Nat) (sz : Nat → Option Int) (lv : Nat → Nat) :
    Mid w.heap.size true L lb sz lv 0 0 (((w.alloc (.cells #[.bool true, .slice (some ⟨w.heap.size + 1, 0, none⟩) L L, .slice (some ⟨w.heap.size + 2, 0, none⟩) L L, .slice none 0 0] 31)).alloc (.cells (madeCells #[.slice none 0 0, .pointer none] (L * 2)) 34)).alloc (.cells (madeCells #[.slice none 0 0] L) 24)) := by
  refine ⟨by simp [go_sem], by simp [go_sem], ?_, fun j hj => by omega, fun _ => ⟨by simp [go_sem], fun _ => .slice none 0 0, ?_, fun j hj => by omega⟩⟩
  · refine ⟨fun i => (madeCells #[.slice none 0 0, .pointer none] (L * 2)).getD i undef, ?_⟩
    have := World.rowIs_alloc (w.alloc (.cells #[.bool true, .slice (some ⟨w.heap.size + 1, 0, none⟩) L L, .slice (some ⟨w.heap.size + 2, 0, none⟩) L L, .slice none 0 0] 31)) (madeCells #[.slice none 0 0, .pointer none] (L * 2)) 34 (fun i => (madeCells #[.slice none 0 0, .pointer none] (L * 2)).getD i undef) (fun i hi => by simp [Array.getD, hi])
    rw [size_madeCells, World.size_alloc] at this
    exact this.alloc _
  · have := World.rowIs_made ((w.alloc (.cells #[.bool true, .slice (some ⟨w.heap.size + 1, 0, none⟩) L L, .slice (some ⟨w.heap.size + 2, 0, none⟩) L L, .slice none 0 0] 31)).alloc (.cells (madeCells #[.slice none 0 0, .pointer none] (L * 2)) 34)) (.slice none 0 0) L 24
    rw [World.size_alloc, World.size_alloc] at this
    exact this
end Go.Proofs.Ybulkdmzs
