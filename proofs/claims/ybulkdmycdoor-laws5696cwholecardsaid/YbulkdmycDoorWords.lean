/-
  WORDS OF 64 BITS AS THE WALK MEETS THEM: 'B x' is the number of the word x; each operation of the walk on such numbers is a word again. No Go text in sight.
-/
import Derived.WalkKit
import Derived.Laws.Bits64b
import Derived.Laws.MathBits
namespace Go.Proofs.YbulkdmycDoor

/-- The number of a word. -/
def B (x : BitVec 64) : Int := (x.toNat : Int)
/-- The upper word of a product. -/
def mhi (x y : BitVec 64) : BitVec 64 := BitVec.ofNat 64 (x.toNat * y.toNat / 2 ^ 64)

theorem B_nn (x : BitVec 64) : 0 ≤ B x := by unfold B; omega
theorem B_lt (x : BitVec 64) : B x < 18446744073709551616 := by unfold B; have := x.isLt; omega
theorem B_wf (x : BitVec 64) : (Lit.int .u64 (B x)).wf = true := by
  have h1 := B_nn x
  have h2 := B_lt x
  simp [Lit.wf, IntKind.min, IntKind.max, IntKind.bits, IntKind.signed]
  omega
theorem B_of (n : Int) (h : (Lit.int .u64 n).wf = true) : ∃ x : BitVec 64, n = B x := by
  simp [Lit.wf, IntKind.min, IntKind.max, IntKind.bits, IntKind.signed] at h
  refine ⟨BitVec.ofNat 64 n.toNat, ?_⟩
  unfold B
  rw [BitVec.toNat_ofNat]
  omega
theorem B_xor (x y : BitVec 64) : bits .xor .u64 (B x) (B y) = B (x ^^^ y) := by
  unfold B; rw [bits_xor_u64_nat _ _ x.isLt y.isLt, BitVec.toNat_xor]
theorem B_and (x y : BitVec 64) : bits .and .u64 (B x) (B y) = B (x &&& y) := by
  unfold B; rw [bits_and_u64_nat _ _ x.isLt y.isLt, BitVec.toNat_and]
theorem B_or (x y : BitVec 64) : bits .or .u64 (B x) (B y) = B (x ||| y) := by
  unfold B; rw [bits_or_u64_nat _ _ x.isLt y.isLt, BitVec.toNat_or]
theorem mhi_nat (x y : BitVec 64) : (mhi x y).toNat = x.toNat * y.toNat / 2 ^ 64 := by
  unfold mhi
  rw [BitVec.toNat_ofNat]
  refine Nat.mod_eq_of_lt (Nat.div_lt_of_lt_mul ?_)
  exact Nat.mul_lt_mul'' x.isLt y.isLt
theorem B_lo (x y : BitVec 64) : IntKind.u64.wrap (B x * B y) = B (x * y) := by
  unfold B
  rw [IntKind.wrap_u64, BitVec.toNat_mul, Int.natCast_emod, Int.natCast_mul]; rfl
theorem B_mhi (x y : BitVec 64) : B x * B y / 18446744073709551616 = B (mhi x y) := by
  unfold B
  rw [mhi_nat, Int.natCast_ediv, Int.natCast_mul]; rfl

theorem B_hi (x y : BitVec 64) :
    IntKind.u64.wrap
      (IntKind.u64.wrap (IntKind.u64.wrap (B x / 4294967296 * (B y / 4294967296)) +
          IntKind.u64.wrap (IntKind.u64.wrap (B x / 4294967296 * bits BinOp.and IntKind.u64 (B y) 4294967295) +
              IntKind.u64.wrap (bits BinOp.and IntKind.u64 (B x) 4294967295 * bits BinOp.and IntKind.u64 (B y) 4294967295) / 4294967296) / 4294967296) +
        IntKind.u64.wrap (bits BinOp.and IntKind.u64
              (IntKind.u64.wrap (IntKind.u64.wrap (B x / 4294967296 * bits BinOp.and IntKind.u64 (B y) 4294967295) +
                  IntKind.u64.wrap (bits BinOp.and IntKind.u64 (B x) 4294967295 * bits BinOp.and IntKind.u64 (B y) 4294967295) / 4294967296)) 4294967295 +
            IntKind.u64.wrap (bits BinOp.and IntKind.u64 (B x) 4294967295 * (B y / 4294967296))) / 4294967296) = B (mhi x y) := by
  rw [and_low32 (B x) (B_nn x) (B_lt x), and_low32 (B y) (B_nn y) (B_lt y), and_low32 (IntKind.u64.wrap _) (by rw [IntKind.wrap_u64]; omega) (by rw [IntKind.wrap_u64]; omega)]
  simp only [IntKind.wrap_u64]
  rw [mul64_arith (B x) (B y) (B_nn x) (B_lt x) (B_nn y) (B_lt y), B_mhi]

theorem B_shl (x : BitVec 64) (s : Nat) : IntKind.u64.wrap (B x * ((2 ^ s : Nat) : Int)) = B (x <<< s) := by
  unfold B
  rw [IntKind.wrap_u64, BitVec.toNat_shiftLeft, Nat.shiftLeft_eq, Int.natCast_emod, Int.natCast_mul]; rfl
theorem B_shr (x : BitVec 64) (s : Nat) : B x / ((2 ^ s : Nat) : Int) = B (x >>> s) := by
  unfold B
  rw [BitVec.toNat_ushiftRight, Nat.shiftRight_eq_div_pow, Int.natCast_ediv]


theorem shl1 (x : BitVec 64) : IntKind.u64.wrap (B x * (2 : Int)) = B (x <<< 1) := B_shl x 1
theorem shl2 (x : BitVec 64) : IntKind.u64.wrap (B x * (4 : Int)) = B (x <<< 2) := B_shl x 2
theorem shl7 (x : BitVec 64) : IntKind.u64.wrap (B x * (128 : Int)) = B (x <<< 7) := B_shl x 7
theorem shr63 (x : BitVec 64) : B x / (9223372036854775808 : Int) = B (x >>> 63) := B_shr x 63
theorem shr62 (x : BitVec 64) : B x / (4611686018427387904 : Int) = B (x >>> 62) := B_shr x 62
theorem shr57 (x : BitVec 64) : B x / (144115188075855872 : Int) = B (x >>> 57) := B_shr x 57
theorem shrN (x : BitVec 64) (n : Nat) : B x / 2 ^ n = B (x >>> n) := by
  have := B_shr x n
  rw [← this]
  congr 1
theorem B_one : (1 : Int) = B 1#64 := rfl
theorem B_red : (135 : Int) = B 135#64 := rfl

/-- The test of one bit, as the walk spells it. -/
theorem bitTest (c : BitVec 64) (n : Nat) : (bits BinOp.and IntKind.u64 (B c / 2 ^ n) 1 == 1) = c.toNat.testBit n := by
  have h : bits BinOp.and IntKind.u64 (B c / 2 ^ n) 1 = ((c.toNat / 2 ^ n % 2 : Nat) : Int) := by
    rw [shrN, B_one, B_and]
    unfold B
    rw [BitVec.toNat_and, BitVec.toNat_ushiftRight, show (1#64).toNat = 1 from rfl, Nat.and_one_is_mod, Nat.shiftRight_eq_div_pow]
  rw [h, Nat.testBit_eq_decide_div_mod_eq, Bool.eq_iff_iff]
  simp only [beq_iff_eq, decide_eq_true_eq]
  omega
/-- The test of the top bit, as the walk spells it. -/
theorem topTest (z : BitVec 64) : (B z / (9223372036854775808 : Int) == 1) = decide (z.toNat >>> 63 = 1) := by
  rw [shr63, Bool.eq_iff_iff]
  unfold B
  rw [BitVec.toNat_ushiftRight]
  simp only [beq_iff_eq, decide_eq_true_eq]
  omega

end Go.Proofs.YbulkdmycDoor
