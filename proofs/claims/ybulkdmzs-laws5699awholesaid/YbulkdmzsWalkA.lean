/-
  THE WALKS of zzs5699avlen, encoding/binary.PutUvarint, uvarintLen, (*nodeKey).size.
-/
import Derived.Test.YbulkdmzsRows
import Derived.Test.YbulkdmzsVl
import Derived.WalkKit
import Derived.WalkSpells
import Derived.WalkLawsBesides
import Derived.Deep.OwnRows
namespace Go.Proofs.Ybulkdmzs
open Go.RowKit

/-- w' is w but for block g. -/
structure Only (g : Nat) (w w' : World) : Prop where
  os : w'.os = w.os
  tape : w'.tape = w.tape
  output : w'.output = w.output
  size : w'.heap.size = w.heap.size
  block : ∀ k, k ≠ g → w'.heap[k]? = w.heap[k]?
theorem Only.refl (g : Nat) (w : World) : Only g w w := ⟨rfl, rfl, rfl, rfl, fun _ _ => rfl⟩
theorem Only.setCell {g : Nat} {a w : World} (h : Only g a w) (i : Nat) (v : Value) : Only g a (w.setCell ⟨g, i, none⟩ v) :=
  ⟨h.os, h.tape, h.output, by rw [← h.size]; simp [World.setCell], fun k hk => by rw [Below.heap_setCell w _ v k hk]; exact h.block k hk⟩
theorem Only.below {g B : Nat} {w w' : World} (h : Only g w w') (hB : B ≤ g) : Below B w w' := ⟨h.os, h.tape, h.output, by rw [h.size]; exact Nat.le_refl _, fun k hk => h.block k (by omega)⟩

set_option maxRecDepth 100000 in
set_option maxHeartbeats 400000 in

theorem vlen_any (x : Nat) (w : World) (hx : x < 18446744073709551616) :
    Calls Yba.prog 4 #[.int .u64 (x : Int)] w fun e w' => e = .returned (.int .i64 (vl x : Int)) ∧ w' = w := by
  have HX : Hid (At x 9 0 x) := At_start x hx
  clear hx
  go_enter Yba.func4, Yba.ntmps4
  go_wp2
  go_loop [0, 3] (fun a n => ∃ f r X : Nat, At x f r X ∧ a = .int .u64 (X : Int) ∧ n = .int .i64 ((r : Int) + 1)) (fun _ n => (10 - intOf n).toNat)
  case atStart => exact ⟨9, 0, x, HX.out, rfl, rfl⟩
  case round =>
    obtain ⟨f, r, X, hA, rfl, rfl⟩ := hrel
    have hr : r ≤ 9 := by have := hA.1; omega
    by_cases hlt : 128 ≤ X
    · obtain ⟨f', hf, hA'⟩ := At_more hA hlt
      have hr' : r ≤ 8 := by have := hA'.1; omega
      have HA : Hid (At x f' (r + 1) (X / 128)) := hA'
      clear hA hf hA'
      go_wp2
      go_round
      case rel => exact ⟨f', r + 1, X / 128, HA.out, by go_num, by go_num⟩
      case measure => simp [intOf]; omega
    · have hd := At_done hA (by omega)
      clear hA
      have HD : Hid (r + 1 = vl x) := hd
      clear hd
      go_wp2
      go_ret
      exact ⟨by rw [← HD.out]; rfl, rfl⟩

set_option maxRecDepth 100000 in
set_option maxHeartbeats 400000 in
theorem put_any (b t : Nat) (F : Nat → Value) (x : Nat) (w : World) (hx : x < 18446744073709551616) (hrow : w.rowIs b t 10 F) :
    Calls Yba.prog 10 #[.slice (some ⟨b, 0, none⟩) 10 10, .int .u64 (x : Int)] w fun e w' => e = .returned (.int .i64 (vl x : Int)) ∧ Only b w w' := by
  have HX : Hid (At x 9 0 x) := At_start x hx
  clear hx
  go_enter Yba.func10, Yba.ntmps10
  go_wp2
  go_loopw [1, 5] (fun a n wr => ∃ f r X : Nat, ∃ F : Nat → Value, At x f r X ∧ a = .int .u64 (X : Int) ∧ n = .int .i64 (r : Int) ∧ wr.rowIs b t 10 F ∧ Only b w wr) (fun _ n _ => (10 - intOf n).toNat)
  case atStart => exact ⟨9, 0, x, F, HX.out, rfl, rfl, hrow, Only.refl _ _⟩
  case round =>
    obtain ⟨f, r, X, F, hA, rfl, rfl, hr0, ho⟩ := hrel
    have hr : r ≤ 9 := by have := hA.1; omega
    have hc := hr0.cell (show r < 10 by omega)
    have hfz := hr0.frozen r
    by_cases hlt : 128 ≤ X
    · obtain ⟨f', hf, hA'⟩ := At_more hA hlt
      have hr' : r ≤ 8 := by have := hA'.1; omega
      have HA : Hid (At x f' (r + 1) (X / 128)) := hA'
      clear hA hf hA'
      go_wp2
      go_roundw
      case rel => exact ⟨f', r + 1, X / 128, _, HA.out, by go_num, by go_num, hr0.set r _, ho.setCell _ _⟩
      case measure => simp [intOf]; omega
    · have HD : Hid (r + 1 = vl x) := At_done hA (by omega)
      clear hA
      go_wp2
      go_ret
      exact ⟨by rw [← HD.out]; rfl, ho.setCell _ _⟩
end Go.Proofs.Ybulkdmzs
