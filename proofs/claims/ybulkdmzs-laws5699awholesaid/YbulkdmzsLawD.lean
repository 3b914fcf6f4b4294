/-
  THE WALK of btree.LawS5699AWhole: a leaf, no value at hand.
-/
import Derived.Test.YbulkdmzsMid
import Derived.Deep.QuietTactic
import Derived.BigQuiet
namespace Go.Proofs.Ybulkdmzs
open Go.RowKit

set_option maxRecDepth 100000 in
set_option maxHeartbeats 4000000 in
theorem law_k0_leaf (kb ko L kc vc : Nat) (A : Nat → Option Addr) (lb C : Nat → Nat) (lg : Nat → Bool) (S : Nat → Int) (va : Option Addr) (w : World)
    (hL : L * 40 ≤ 140737488351232) 
    (k0 : ∀ j, j < L → w.cell? ⟨kb, ko + j * 3, none⟩ = some (.slice (A j) (lb j) (C j))) (k1 : ∀ j, j < L → w.cell? ⟨kb, ko + j * 3 + 1, none⟩ = some (.bool (lg j))) (k2 : ∀ j, j < L → w.cell? ⟨kb, ko + j * 3 + 2, none⟩ = some (.int .i64 (S j)))
    (hlb : ∀ j, j < L → lb j ≤ 9223372036854775807) :
    Calls Yba.prog 3 #[.bool true, .slice (some ⟨kb, ko, none⟩) L kc, .slice va 0 vc] w fun e w' => e = .returned (.bool true) ∧ Below w.heap.size w w' := by
  obtain ⟨sz, hsz⟩ : ∃ sz : Nat → Option Int, sz = fun j => if lg j then some (S j) else none := ⟨_, rfl⟩
  obtain ⟨lv, hlv⟩ : ∃ lv : Nat → Nat, lv = fun _ => 0 := ⟨_, rfl⟩
  obtain ⟨e, he⟩ : ∃ e : Nat → Int, e = fun k => E true (lb k) (sz k) (lv k) := ⟨_, rfl⟩
  have HSZ : Hid (sz = fun j => if lg j then some (S j) else none) := hsz
  have HLV : Hid (lv = fun _ => 0) := hlv
  have HE : Hid (e = fun k => E true (lb k) (sz k) (lv k)) := he
  clear hsz hlv he
  have HLM : Hid (∀ j, j < L → lv j ≤ 9223372036854775807) := fun j _ => by rw [HLV.out]; exact Nat.zero_le _
  have hmk := make_keys L (by omega)
  have hmv := fun w => run_make_row' (P := Yba.prog) 23 24 (.slice none 0 0) 24 Yba.underlying23 Yba.info24 rfl .i64 .i64 L (by omega) (by omega) w
  go_enter Yba.func3, Yba.ntmps3
  go_wp2
  go_loop [7, 25] (fun t i => ∃ k : Nat, ∃ x : Int, k ≤ L ∧ i = .int .i64 (k : Int) ∧ t = .int .i64 x) (fun _ i => L - (intOf i).toNat)
  case atStart => exact ⟨0, _, Nat.zero_le _, rfl, rfl⟩
  case round =>
    obtain ⟨k, x, hk, rfl, rfl⟩ := hrel
    by_cases hlt : k < L
    · have c0 := k0 k hlt
      have hl := hlb k hlt
      go_wp2
      go_round
      case rel => exact ⟨k + 1, _, by omega, by go_num, rfl⟩
      case measure => simp [intOf]; omega
    · by_cases hx : 1048576 < x
      · go_wp2
        refine wp_loop_rounds 1 ?_
        rw [rounds_succ]
        go_wp2
        go_ret
        exact ⟨rfl, Below.refl _ _⟩
      · go_wp2
        refine wp_loop_rounds 1 ?_
        rw [rounds_succ]
        go_wp2
        clear hmk hmv
        go_loopw [11, 74] (fun t i wr => ∃ k : Nat, ∃ x : Int, k ≤ L ∧ i = .int .i64 (k : Int) ∧ t = .int .i64 x ∧ Hid (x = wrap64 (base true + sm e k)) ∧ Mid w.heap.size true L lb sz lv k k wr ∧ Below w.heap.size w wr) (fun _ i _ => L - (intOf i).toNat)
        case atStart => exact ⟨0, 3, Nat.zero_le _, rfl, rfl, base_true e, mid_leaf w L lb sz lv, (((Below.refl _ _).alloc (Nat.le_refl _) _).alloc (by simp) _).alloc (by simp; omega) _⟩
        case round =>
          obtain ⟨k, x, hk, rfl, rfl, HX, hm, hb⟩ := hrel
          by_cases hlt : k < L
          · have c0 := (hb.cell (block_lt_of_cell (k0 k hlt))).trans (k0 k hlt)
            have c1 := (hb.cell (block_lt_of_cell (k1 k hlt))).trans (k1 k hlt)
            have c2 := (hb.cell (block_lt_of_cell (k2 k hlt))).trans (k2 k hlt)
            have n1 := hm.c1
            obtain ⟨F, hF⟩ := hm.keys
            have f0 := hF.cell (show k * 2 < L * 2 by omega)
            have f1 := hF.cell (show k * 2 + 1 < L * 2 by omega)
            have z0 := hF.frozen (k * 2)
            have z1 := hF.frozen (k * 2 + 1)
            have g1 := hF.lt
            have hkk0 : (0 : Int) ≤ (k : Int) := by omega
            have hkk1 : (k : Int) < (L : Int) := by omega
            have HLK : Hid (lv k = 0) := by unfold Hid; rw [HLV.out]
            have HEL : Hid (e k = E true (lb k) (sz k) 0) := by unfold Hid; rw [HE.out]; simp only [HLK.out]
            clear k0 k1 k2
            obtain ⟨l, hl⟩ : ∃ l, lg k = l := ⟨_, rfl⟩
            rw [hl] at c1
            have HSK : Hid (sz k = if l then some (S k) else none) := by unfold Hid; rw [HSZ.out]; simp only [hl]
            clear hl
            cases l with
            | false =>
              have HEK : Hid (e k = E true (lb k) none 0) := HEL.out.trans (by rw [HSK.out]; rfl)
              have b2 := fun X Y => below2 wr X Y
              have n1' := fun X Y => cell_later (b2 X Y) n1
              have f0' := fun X Y => cell_later (b2 X Y) f0
              have f1' := fun X Y => cell_later (b2 X Y) f1
              have z0' := fun X Y => ((b2 X Y).frozen (p := ⟨w.heap.size + 1, k * 2, none⟩) g1).trans z0
              have z1' := fun X Y => ((b2 X Y).frozen (p := ⟨w.heap.size + 1, k * 2 + 1, none⟩) g1).trans z1
              clear n1 f0 f1 z0 z1
              go_wp2
              go_region
              rw [show ((((wr.alloc (Obj.cells #[Value.slice (A k) (lb k) (C k), Value.bool false, Value.int IntKind.i64 (S k)] 26)).alloc (Obj.cells #[Value.slice (A k) (lb k) (C k), Value.pointer none] 34)).setCell ⟨w.heap.size + 1, k * 2, none⟩ (Value.slice (A k) (lb k) (C k))).setCell ⟨w.heap.size + 1, k * 2 + 1, none⟩ (Value.pointer none)) = stS wr w.heap.size k (A k) (lb k) (C k) (S k) from rfl]
              obtain ⟨hm2, hb2, _, t0, t1⟩ := stS_facts w hb hm hlt g1 (A k) (C k) (S k) HSK.out
              clear n1' f0' f1' z0' z1' b2 hF hm hb c0 c1 c2
              obtain ⟨m2, G, hG, _⟩ := hm2.vals rfl
              have mg := hG.cell hlt
              have mz := hG.frozen k
              go_wp2
              go_quiet ((go_at_call 4; exact (vlen_w _ _).mono fun _ _ ⟨he, hm⟩ => ⟨he, _, hm⟩))
              go_wp2_with fail
              refine (vlen_zero _).mono ?_
              rintro e w' ⟨rfl, rfl⟩
              go_wp2
              go_roundw
              case rel =>
                refine ⟨k + 1, _, by omega, by go_num, rfl, ?_, ?_, ?_⟩
                · exact want_ls0 HX.out HEK.out
                · exact (hm2.drewN _).val' none 0 0 HLK.out
                · exact (below_drewN hb2 _).setCell (by show w.heap.size ≤ w.heap.size + 2; omega) _
              case measure => simp [intOf]; omega
            | true =>
              have HEK : Hid (e k = E true (lb k) (some (S k)) 0) := HEL.out.trans (by rw [HSK.out]; rfl)
              have b2 := fun X Y Z => below3 wr X Y Z
              have n1' := fun X Y Z => cell_later (b2 X Y Z) n1
              have f0' := fun X Y Z => cell_later (b2 X Y Z) f0
              have f1' := fun X Y Z => cell_later (b2 X Y Z) f1
              have z0' := fun X Y Z => ((b2 X Y Z).frozen (p := ⟨w.heap.size + 1, k * 2, none⟩) g1).trans z0
              have z1' := fun X Y Z => ((b2 X Y Z).frozen (p := ⟨w.heap.size + 1, k * 2 + 1, none⟩) g1).trans z1
              clear n1 f0 f1 z0 z1
              go_wp2
              go_region
              rw [show (((((wr.alloc (Obj.cells #[Value.slice (A k) (lb k) (C k), Value.bool true, Value.int IntKind.i64 (S k)] 26)).alloc (Obj.cells #[Value.slice (A k) (lb k) (C k), Value.pointer (some ⟨wr.heap.size + 2, 0, none⟩)] 34)).alloc (Obj.cells #[Value.int IntKind.i64 (S k), Value.int IntKind.i64 1] 37)).setCell ⟨w.heap.size + 1, k * 2, none⟩ (Value.slice (A k) (lb k) (C k))).setCell ⟨w.heap.size + 1, k * 2 + 1, none⟩ (Value.pointer (some ⟨wr.heap.size + 2, 0, none⟩))) = stL wr w.heap.size k (A k) (lb k) (C k) (S k) from rfl]
              obtain ⟨hm2, hb2, _, t0, t1⟩ := stL_facts w hb hm hlt g1 (A k) (C k) (S k) HSK.out
              clear n1' f0' f1' z0' z1' b2 hF hm hb c0 c1 c2
              obtain ⟨m2, G, hG, _⟩ := hm2.vals rfl
              have mg := hG.cell hlt
              have mz := hG.frozen k
              go_wp2
              go_quiet ((go_at_call 4; exact (vlen_w _ _).mono fun _ _ ⟨he, hm⟩ => ⟨he, _, hm⟩))
              go_wp2_with fail
              refine (vlen_zero _).mono ?_
              rintro e w' ⟨rfl, rfl⟩
              go_wp2
              go_roundw
              case rel =>
                refine ⟨k + 1, _, by omega, by go_num, rfl, ?_, ?_, ?_⟩
                · exact want_ll0 HX.out HEK.out
                · exact (hm2.drewN _).val' none 0 0 HLK.out
                · exact (below_drewN hb2 _).setCell (by show w.heap.size ≤ w.heap.size + 2; omega) _
              case measure => simp [intOf]; omega
          · obtain rfl : k = L := by omega
            have hE := hm.ents HLM.out
            clear k0 k1 k2 hlb
            go_wp2_with (go_at_call 5; refine (size_any w.heap.size true k lb sz lv _ (by omega) hE).mono ?_; rintro e' w2 ⟨y, rfl, HY, hb2⟩; have q0 := cell_later hb2 hm.c0; have q1 := cell_later hb2 hm.c1; obtain rfl : y = x := by rw [HX.out, HE.out]; exact HY.out)
            go_ret
            exact ⟨rfl, hb.trans (hb2.mono hb.size)⟩
end Go.Proofs.Ybulkdmzs
