/-
  THE PLAIN PART OF SEAT b5699a: how many bytes a number takes at seven bits a byte; sums that wrap. No Go text in sight.
-/
import Derived.WalkKit
namespace Go.Proofs.Ybulkdmzs
open Go.RowKit

/-- The bytes of x at seven bits a byte, f + 1 at the most. -/
def vf : Nat → Nat → Nat
  | 0, _ => 1
  | f + 1, x => if x < 128 then 1 else 1 + vf f (x / 128)
def vl (x : Nat) : Nat := vf 9 x

theorem vf_bd (f : Nat) : ∀ x, 1 ≤ vf f x ∧ vf f x ≤ f + 1 := by
  induction f with
  | zero => intro x; simp [vf]
  | succ f ih =>
    intro x
    rw [vf]
    have := ih (x / 128)
    split <;> omega
theorem vl_bd (x : Nat) : 1 ≤ vl x ∧ vl x ≤ 10 := vf_bd 9 x
/-- The head of a round: f places are left, r have been passed. -/
def At (x0 f r X : Nat) : Prop := f + r = 9 ∧ X < 2 * 128 ^ f ∧ r + vf f X = vl x0
theorem At_start (x0 : Nat) (h : x0 < 18446744073709551616) : At x0 9 0 x0 := ⟨rfl, by simpa using h, by simp [vl]⟩
theorem At_more {x0 f r X : Nat} (h : At x0 f r X) (hX : 128 ≤ X) : ∃ f', f = f' + 1 ∧ At x0 f' (r + 1) (X / 128) := by
  obtain ⟨h1, h2, h3⟩ := h
  cases f with
  | zero => simp at h2; omega
  | succ f =>
    refine ⟨f, rfl, by omega, ?_, ?_⟩
    · rw [Nat.pow_succ] at h2; omega
    · rw [vf, if_neg (by omega)] at h3; omega
theorem At_done {x0 f r X : Nat} (h : At x0 f r X) (hX : X < 128) : r + 1 = vl x0 := by
  obtain ⟨h1, h2, h3⟩ := h
  cases f with
  | zero => simpa [vf] using h3
  | succ f => rw [vf, if_pos hX] at h3; exact h3

/-- The number of an int as a uint64. -/
def U (n : Int) : Nat := (n % 18446744073709551616).toNat
theorem U_lt (n : Int) : U n < 18446744073709551616 := by unfold U; omega
theorem U_nat (n : Nat) (h : n ≤ 9223372036854775807) : U (n : Int) = n := by unfold U; omega

/-- What a key takes: the bytes of its whole length, its held bytes, 7 where it is long ('sz': the size that the overflow says). -/
def K (lb : Nat) (sz : Option Int) : Int := (vl (U (sz.getD (lb : Int))) : Int) + (lb : Int) + (if sz.isSome then 7 else 0)
/-- What an entry takes. -/
def E (leaf : Bool) (lb : Nat) (sz : Option Int) (lv : Nat) : Int := K lb sz + (if leaf then (vl lv : Int) + (lv : Int) else 7)
/-- The sum of the first k. -/
def sm (e : Nat → Int) : Nat → Int
  | 0 => 0
  | k + 1 => sm e k + e k

theorem w_in (n : Int) (h : -9223372036854775808 ≤ n ∧ n ≤ 9223372036854775807) : wrap64 n = n := by unfold wrap64; omega
theorem w_add (a b : Int) : wrap64 (wrap64 a + b) = wrap64 (a + b) := by unfold wrap64; omega
theorem w_add2 (a b : Int) : wrap64 (wrap64 a + wrap64 b) = wrap64 (a + b) := by unfold wrap64; omega
theorem w_addr (a b : Int) : wrap64 (a + wrap64 b) = wrap64 (a + b) := by unfold wrap64; omega
theorem w_w (a : Int) : wrap64 (wrap64 a) = wrap64 a := by unfold wrap64; omega

end Go.Proofs.Ybulkdmzs
