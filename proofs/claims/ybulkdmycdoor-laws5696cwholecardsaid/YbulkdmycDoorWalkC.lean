/-
  THE WALKS of mgm.clmul, mgm.mul128 and the law.
-/
import Derived.Test.YbulkdmycDoorWalkM
import Derived.Deep.QuietTactic
import Derived.BigQuiet
namespace Go.Proofs.YbulkdmycDoor
open Go.RowKit Gf

/-- The table of lanes lies in the variable's five cells. -/
def Lanes (w : World) : Prop := w.cell? ⟨0, 0, none⟩ = some (.int .u64 (B (L 0))) ∧ w.cell? ⟨0, 1, none⟩ = some (.int .u64 (B (L 1))) ∧ w.cell? ⟨0, 2, none⟩ = some (.int .u64 (B (L 2))) ∧
  w.cell? ⟨0, 3, none⟩ = some (.int .u64 (B (L 3))) ∧ w.cell? ⟨0, 4, none⟩ = some (.int .u64 (B (L 4)))

set_option maxRecDepth 100000 in
set_option maxHeartbeats 1000000 in
theorem clmul_any (x y : BitVec 64) (w : World) (hl : Lanes w) :
    Calls Ybad.prog 6 #[.int .u64 (B x), .int .u64 (B y)] w
      fun e w' => ∃ h l : BitVec 64, e = .returned (.tuple #[.int .u64 (B h), .int .u64 (B l)]) ∧ Hid (h.toNat = clh x.toNat y.toNat) ∧ Hid (l.toNat = cll x.toNat y.toNat) ∧ ∃ n, w' = w.drewN n := by
  obtain ⟨c0, c1, c2, c3, c4⟩ := hl
  have fa := B_and
  have fo := B_or
  go_enter Ybad.func6, Ybad.ntmps6
  go_wp2
  go_quiet (fail)
  go_wp2
  go_quiet (fail)
  go_wp2_with fail
  refine (xor_any _ _ _ _ _ _ _ _ _ _ _).mono ?_
  rintro e w' ⟨h0, l0, rfl, eh0, el0, rfl⟩
  go_wp2_with fail
  refine (xor_any _ _ _ _ _ _ _ _ _ _ _).mono ?_
  rintro e w' ⟨h1, l1, rfl, eh1, el1, rfl⟩
  go_wp2_with fail
  refine (xor_any _ _ _ _ _ _ _ _ _ _ _).mono ?_
  rintro e w' ⟨h2, l2, rfl, eh2, el2, rfl⟩
  go_wp2_with fail
  refine (xor_any _ _ _ _ _ _ _ _ _ _ _).mono ?_
  rintro e w' ⟨h3, l3, rfl, eh3, el3, rfl⟩
  go_wp2_with fail
  refine (xor_any _ _ _ _ _ _ _ _ _ _ _).mono ?_
  rintro e w' ⟨h4, l4, rfl, eh4, el4, rfl⟩
  go_wp2
  go_ret2
  refine ⟨_, _, rfl, ?_, ?_, _, rfl⟩
  · have := words_of xph x y h0 h1 h2 h3 h4 (L 1) (L 2) (L 3) (L 4) (L 0) eh0.out eh1.out eh2.out eh3.out eh4.out
    rw [L0, L1, L2, L3, L4] at this
    exact this
  · have := words_of xpl x y l0 l1 l2 l3 l4 (L 0) (L 1) (L 2) (L 3) (L 4) el0.out el1.out el2.out el3.out el4.out
    rw [L0, L1, L2, L3, L4] at this
    exact this

theorem Lanes.drewN {w : World} (h : Lanes w) (n : Nat) : Lanes (w.drewN n) := by
  obtain ⟨c0, c1, c2, c3, c4⟩ := h
  exact ⟨by simpa using c0, by simpa using c1, by simpa using c2, by simpa using c3, by simpa using c4⟩

set_option maxRecDepth 100000 in
set_option maxHeartbeats 1000000 in
theorem mul128_any (a b c d : BitVec 64) (w : World) (hl : Lanes w) :
    Calls Ybad.prog 4 #[.int .u64 (B a), .int .u64 (B b), .int .u64 (B c), .int .u64 (B d)] w
      fun e w' => ∃ h l : BitVec 64, e = .returned (.tuple #[.int .u64 (B h), .int .u64 (B l)]) ∧ Hid (Inv a b c d h l 128) ∧ ∃ n, w' = w.drewN n := by
  have fx := B_xor
  go_enter Ybad.func4, Ybad.ntmps4
  go_wp2_with fail
  refine (clmul_any _ _ _ hl).mono ?_
  rintro e w' ⟨h1, l1, rfl, eh1, el1, n1, rfl⟩
  go_wp2_with fail
  refine (clmul_any _ _ _ (hl.drewN _)).mono ?_
  rintro e w' ⟨h0, l0, rfl, eh0, el0, n2, rfl⟩
  go_wp2_with fail
  refine (clmul_any _ _ _ (by first | exact hl.drewN _ | exact (hl.drewN _).drewN _)).mono ?_
  rintro e w' ⟨hm, lm, rfl, ehm, elm, n3, rfl⟩
  go_wp2
  go_ret2
  exact ⟨_, _, ret2_eq (fold_h h1 (l1 ^^^ (hm ^^^ (h1 ^^^ h0))) (h0 ^^^ (lm ^^^ (l1 ^^^ l0)))) (fold_l h1 (l1 ^^^ (hm ^^^ (h1 ^^^ h0))) l0), mul_inv a b c d h1 l1 h0 l0 hm lm eh1.out el1.out eh0.out el0.out ehm.out elm.out, _, rfl⟩

set_option maxRecDepth 100000 in
set_option maxHeartbeats 1000000 in
theorem law_any (a b c d : BitVec 64) (w : World) (hl : Lanes w) :
    Calls Ybad.prog 3 #[.int .u64 (B a), .int .u64 (B b), .int .u64 (B c), .int .u64 (B d)] w
      fun e w' => e = .returned (.bool true) ∧ ∃ n, w' = w.drewN n := by
  go_enter Ybad.func3, Ybad.ntmps3
  go_wp2_with fail
  refine (mul128_any _ _ _ _ _ hl).mono ?_
  rintro e w' ⟨h, l, rfl, hI, n1, rfl⟩
  go_wp2_with fail
  refine (model_any _ _ _ _ _).mono ?_
  rintro e w' ⟨h', l', rfl, hI', rfl⟩
  obtain ⟨rfl, rfl⟩ := hI.out.unique hI'
  go_wp2
  go_ret
  exact ⟨rfl, _, rfl⟩

end Go.Proofs.YbulkdmycDoor
