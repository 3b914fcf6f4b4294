/-
  THE WALKS of math/bits.Mul64, mgm.xorProducts and the model.
-/
import Derived.Test.YbulkdmycDoorRows
import Derived.Test.YbulkdmycDoorSteps
import Derived.WalkKit
import Derived.WalkSpells
import Derived.WalkLawsBesides
namespace Go.Proofs.YbulkdmycDoor
open Go.RowKit Gf

theorem ret2_eq {k : IntKind} {a b c d : Int} (h : a = b) (h' : c = d) : Ending.returned (.tuple #[.int k a, .int k c]) = .returned (.tuple #[.int k b, .int k d]) := by rw [h, h']

set_option maxHeartbeats 400000 in
theorem mul64_any (x y : BitVec 64) (w : World) :
    Calls Ybad.prog 8 #[.int .u64 (B x), .int .u64 (B y)] w fun e w' => e = .returned (.tuple #[.int .u64 (B (mhi x y)), .int .u64 (B (x * y))]) ∧ w' = w := by
  go_enter Ybad.func8, Ybad.ntmps8
  go_wp2
  go_ret2
  exact ⟨ret2_eq (B_hi x y) (B_lo x y), rfl⟩

set_option maxHeartbeats 400000 in
theorem xor_any (a0 b0 a1 b1 a2 b2 a3 b3 a4 b4 : BitVec 64) (w : World) :
    Calls Ybad.prog 7 #[.int .u64 (B a0), .int .u64 (B b0), .int .u64 (B a1), .int .u64 (B b1), .int .u64 (B a2), .int .u64 (B b2), .int .u64 (B a3), .int .u64 (B b3), .int .u64 (B a4), .int .u64 (B b4)] w
      fun e w' => ∃ h l : BitVec 64, e = .returned (.tuple #[.int .u64 (B h), .int .u64 (B l)]) ∧
        Hid (h.toNat = xph a0.toNat b0.toNat a1.toNat b1.toNat a2.toNat b2.toNat a3.toNat b3.toNat a4.toNat b4.toNat) ∧
        Hid (l.toNat = xpl a0.toNat b0.toNat a1.toNat b1.toNat a2.toNat b2.toNat a3.toNat b3.toNat a4.toNat b4.toNat) ∧ w' = w := by
  have fx := B_xor
  go_enter Ybad.func7, Ybad.ntmps7
  go_wp2_with (go_at_call 8; refine (mul64_any _ _ _).mono ?_; rintro e w' ⟨rfl, rfl⟩)
  go_ret2
  refine ⟨_, _, rfl, ?_, ?_, rfl⟩
  · simp only [Hid, BitVec.toNat_xor, mhi_nat, xph]
  · simp only [Hid, BitVec.toNat_xor, BitVec.toNat_mul, xpl]

set_option maxHeartbeats 1000000 in
theorem model_any (a b c d : BitVec 64) (w : World) :
    Calls Ybad.prog 5 #[.int .u64 (B a), .int .u64 (B b), .int .u64 (B c), .int .u64 (B d)] w
      fun e w' => ∃ h l : BitVec 64, e = .returned (.tuple #[.int .u64 (B h), .int .u64 (B l)]) ∧ Inv a b c d h l 128 ∧ w' = w := by
  go_enter Ybad.func5, Ybad.ntmps5
  go_wp2
  go_loop [10, 11, 12] (fun h l i => ∃ zh zl : BitVec 64, ∃ k : Nat, k ≤ 128 ∧ h = .int .u64 (B zh) ∧ l = .int .u64 (B zl) ∧ i = .int .i64 ((127 : Int) - (k : Int)) ∧ Inv a b c d zh zl k) (fun _ _ i => (intOf i + 1).toNat)
  case atStart => exact ⟨0#64, 0#64, 0, by omega, rfl, rfl, rfl, inv_zero a b c d⟩
  case round =>
    obtain ⟨zh, zl, k, hk, rfl, rfl, rfl, hI⟩ := hrel
    have HI : Hid (Inv a b c d zh zl k) := hI
    clear hI
    rcases (show k < 64 ∨ (64 ≤ k ∧ k < 128) ∨ k = 128 by omega) with hlt | ⟨hge, hlt⟩ | rfl
    · go_wp2
      all_goals
        go_round
        case rel =>
          have hb := bit_hi c d k hlt _ (by assumption)
          first
            | (obtain ⟨p, q, e1, e2, hI⟩ := end_tt a b c d zh zl k HI.out (by assumption) hb; exact ⟨p, q, k + 1, by omega, congrArg (Value.int .u64) e1, congrArg (Value.int .u64) e2, congrArg (Value.int .i64) (show (127 : Int) - (k : Int) - 1 = 127 - ((k + 1 : Nat) : Int) by omega), hI⟩)
            | (obtain ⟨p, q, e1, e2, hI⟩ := end_tf a b c d zh zl k HI.out (by assumption) hb; exact ⟨p, q, k + 1, by omega, congrArg (Value.int .u64) e1, congrArg (Value.int .u64) e2, congrArg (Value.int .i64) (show (127 : Int) - (k : Int) - 1 = 127 - ((k + 1 : Nat) : Int) by omega), hI⟩)
            | (obtain ⟨p, q, e1, e2, hI⟩ := end_ft a b c d zh zl k HI.out (by assumption) hb; exact ⟨p, q, k + 1, by omega, congrArg (Value.int .u64) e1, congrArg (Value.int .u64) e2, congrArg (Value.int .i64) (show (127 : Int) - (k : Int) - 1 = 127 - ((k + 1 : Nat) : Int) by omega), hI⟩)
            | (obtain ⟨p, q, e1, e2, hI⟩ := end_ff a b c d zh zl k HI.out (by assumption) hb; exact ⟨p, q, k + 1, by omega, congrArg (Value.int .u64) e1, congrArg (Value.int .u64) e2, congrArg (Value.int .i64) (show (127 : Int) - (k : Int) - 1 = 127 - ((k + 1 : Nat) : Int) by omega), hI⟩)
        case measure => simp [intOf]; omega
    · go_wp2
      all_goals
        go_round
        case rel =>
          have hb := bit_lo c d k hge _ (by assumption)
          first
            | (obtain ⟨p, q, e1, e2, hI⟩ := end_tt a b c d zh zl k HI.out (by assumption) hb; exact ⟨p, q, k + 1, by omega, congrArg (Value.int .u64) e1, congrArg (Value.int .u64) e2, congrArg (Value.int .i64) (show (127 : Int) - (k : Int) - 1 = 127 - ((k + 1 : Nat) : Int) by omega), hI⟩)
            | (obtain ⟨p, q, e1, e2, hI⟩ := end_tf a b c d zh zl k HI.out (by assumption) hb; exact ⟨p, q, k + 1, by omega, congrArg (Value.int .u64) e1, congrArg (Value.int .u64) e2, congrArg (Value.int .i64) (show (127 : Int) - (k : Int) - 1 = 127 - ((k + 1 : Nat) : Int) by omega), hI⟩)
            | (obtain ⟨p, q, e1, e2, hI⟩ := end_ft a b c d zh zl k HI.out (by assumption) hb; exact ⟨p, q, k + 1, by omega, congrArg (Value.int .u64) e1, congrArg (Value.int .u64) e2, congrArg (Value.int .i64) (show (127 : Int) - (k : Int) - 1 = 127 - ((k + 1 : Nat) : Int) by omega), hI⟩)
            | (obtain ⟨p, q, e1, e2, hI⟩ := end_ff a b c d zh zl k HI.out (by assumption) hb; exact ⟨p, q, k + 1, by omega, congrArg (Value.int .u64) e1, congrArg (Value.int .u64) e2, congrArg (Value.int .i64) (show (127 : Int) - (k : Int) - 1 = 127 - ((k + 1 : Nat) : Int) by omega), hI⟩)
        case measure => simp [intOf]; omega
    · go_wp2
      go_ret2
      exact ⟨zh, zl, rfl, HI.out, rfl⟩
end Go.Proofs.YbulkdmycDoor
