/-
  THE PLAIN LAW OF SEAT b5697a: the lowest set bit, the chain of a binary indexed tree, sums. No Go text in sight.
-/
import Derived.WalkKit
namespace Go.Proofs.Ybulkdmyq.Fen
open Go.RowKit

/-- The lowest set bit of j, looked for among w bits. -/
def lf : Nat → Nat → Nat
  | 0, _ => 0
  | w + 1, j => if j % 2 = 1 then 1 else 2 * lf w (j / 2)
def low (j : Nat) : Nat := lf 64 j

theorem lf_even (w j : Nat) : lf (w + 1) (2 * j) = 2 * lf w j := by
  rw [lf, if_neg (by omega), show 2 * j / 2 = j by omega]
theorem lf_odd (w j : Nat) : lf (w + 1) (2 * j + 1) = 1 := by
  rw [lf, if_pos (by omega)]
theorem lf_bd (w : Nat) : ∀ j, 0 < j → j < 2 ^ w → 1 ≤ lf w j ∧ lf w j ≤ j := by
  induction w with
  | zero => intro j h0 h1; simp at h1; omega
  | succ w ih =>
    intro j h0 h1
    rw [Nat.pow_succ] at h1
    rcases (show (∃ a, j = 2 * a) ∨ (∃ a, j = 2 * a + 1) from by
      rcases Nat.mod_two_eq_zero_or_one j with h | h
      · exact .inl ⟨j / 2, by omega⟩
      · exact .inr ⟨j / 2, by omega⟩) with ⟨a, rfl⟩ | ⟨a, rfl⟩
    · rw [lf_even]
      have := ih a (by omega) (by omega)
      omega
    · rw [lf_odd]; omega

theorem halves (j : Nat) : (∃ a, j = 2 * a) ∨ (∃ a, j = 2 * a + 1) := by
  rcases Nat.mod_two_eq_zero_or_one j with h | h
  · exact .inl ⟨j / 2, by omega⟩
  · exact .inr ⟨j / 2, by omega⟩

/-- The chain's step: between i and i + low i no cell covers i; from i + low i on a cell covers the one iff it covers the other. -/
theorem chain (w : Nat) : ∀ i j, 0 < i → i < j → j < 2 ^ w →
    (j < i + lf w i → i ≤ j - lf w j) ∧ (i + lf w i ≤ j → j - lf w j < i + lf w i → j - lf w j < i) := by
  induction w with
  | zero => intro i j h0 h1 h2; simp at h2; omega
  | succ w ih =>
    intro i j h0 h1 h2
    rw [Nat.pow_succ] at h2
    rcases halves i with ⟨a, rfl⟩ | ⟨a, rfl⟩ <;> rcases halves j with ⟨b, rfl⟩ | ⟨b, rfl⟩
    · rw [lf_even, lf_even]
      have := ih a b (by omega) (by omega) (by omega)
      omega
    · rw [lf_even, lf_odd]
      have := (lf_bd w a (by omega) (by omega))
      omega
    · rw [lf_even, lf_odd]
      omega
    · rw [lf_odd, lf_odd]
      omega

/-- The cell j holds the count of position q - 1. -/
def cov (q j : Nat) : Bool := decide (j - low j < q ∧ q ≤ j)

theorem low_bd (j : Nat) (h0 : 0 < j) (h1 : j < 2 ^ 64) : 1 ≤ low j ∧ low j ≤ j := lf_bd 64 j h0 h1
theorem cov_self (k : Nat) (h0 : 0 < k) (h1 : k < 2 ^ 64) : cov k k = true := by
  have := low_bd k h0 h1
  simp only [cov, decide_eq_true_eq]; omega
theorem cov_zero (q : Nat) (h : 0 < q) : cov q 0 = false := by
  simp only [cov, decide_eq_false_iff_not]; omega
theorem cov_between (k j : Nat) (h0 : 0 < k) (h1 : k < j) (h2 : j < k + low k) (h3 : j < 2 ^ 64) : cov k j = false := by
  have := (chain 64 k j h0 h1 h3).1 h2
  have e : lf 64 j = low j := rfl
  rw [e] at this
  simp only [cov, decide_eq_false_iff_not]; omega
theorem cov_next (k j : Nat) (h0 : 0 < k) (h1 : k + low k ≤ j) (h3 : j < 2 ^ 64) : cov k j = cov (k + low k) j := by
  have hb := low_bd k h0 (by omega)
  have := (chain 64 k j h0 (by omega) h3).2 h1
  have e : lf 64 j = low j := rfl
  have e' : lf 64 k = low k := rfl
  rw [e, e'] at this
  simp only [cov, decide_eq_decide]
  omega

/-! ### 'k & -k' -/
theorem and_halves (a b x y : Nat) (hx : x < 2) (hy : y < 2) : (2 * a + x) &&& (2 * b + y) = 2 * (a &&& b) + (x &&& y) := by
  have h1 : ((2 * a + x) &&& (2 * b + y)) / 2 = a &&& b := by
    rw [Nat.and_div_two, show (2 * a + x) / 2 = a by omega, show (2 * b + y) / 2 = b by omega]
  have h2 : ((2 * a + x) &&& (2 * b + y)) % 2 = x &&& y := by
    have := Nat.and_mod_two_pow (a := 2 * a + x) (b := 2 * b + y) (n := 1)
    rw [Nat.pow_one, show (2 * a + x) % 2 = x by omega, show (2 * b + y) % 2 = y by omega] at this
    exact this
  omega
theorem and_compl (w : Nat) : ∀ j, j < 2 ^ w → j &&& (2 ^ w - 1 - j) = 0 := by
  induction w with
  | zero => intro j h; simp at h; simp [h]
  | succ w ih =>
    intro j h
    rw [Nat.pow_succ] at *
    rcases halves j with ⟨a, rfl⟩ | ⟨a, rfl⟩
    · have := and_halves a (2 ^ w - 1 - a) 0 1 (by omega) (by omega)
      rw [ih a (by omega)] at this
      rw [show 2 ^ w * 2 - 1 - 2 * a = 2 * (2 ^ w - 1 - a) + 1 by omega]
      simpa using this
    · have := and_halves a (2 ^ w - 1 - a) 1 0 (by omega) (by omega)
      rw [ih a (by omega)] at this
      rw [show 2 ^ w * 2 - 1 - (2 * a + 1) = 2 * (2 ^ w - 1 - a) + 0 by omega]
      simpa using this
theorem and_low (w : Nat) : ∀ j, 0 < j → j < 2 ^ w → j &&& (2 ^ w - j) = lf w j := by
  induction w with
  | zero => intro j h0 h; simp at h; omega
  | succ w ih =>
    intro j h0 h
    rw [Nat.pow_succ] at *
    rcases halves j with ⟨a, rfl⟩ | ⟨a, rfl⟩
    · have := and_halves a (2 ^ w - a) 0 0 (by omega) (by omega)
      rw [ih a (by omega) (by omega)] at this
      rw [lf_even, show 2 ^ w * 2 - 2 * a = 2 * (2 ^ w - a) + 0 by omega]
      simpa using this
    · have := and_halves a (2 ^ w - 1 - a) 1 1 (by omega) (by omega)
      rw [and_compl w a (by omega)] at this
      rw [lf_odd, show 2 ^ w * 2 - (2 * a + 1) = 2 * (2 ^ w - 1 - a) + 1 by omega]
      simpa using this

theorem bits_low (k : Nat) (h0 : 0 < k) (h1 : k < 4611686018427387904) : bits .and .i64 (k : Int) (-(k : Int)) = ((low k : Nat) : Int) := by
  have hb := low_bd k h0 (by omega)
  have e1 : (BitVec.ofInt 64 (k : Int)).toNat = k := by
    rw [BitVec.toNat_ofInt]; omega
  have e2 : (BitVec.ofInt 64 (-(k : Int))).toNat = 2 ^ 64 - k := by
    rw [BitVec.toNat_ofInt]; omega
  show IntKind.i64.wrap ((BitVec.ofInt 64 (k : Int) &&& BitVec.ofInt 64 (-(k : Int))).toNat : Int) = _
  rw [BitVec.toNat_and, e1, e2, and_low 64 k h0 (by omega), IntWalk.i64_left]
  exact IntWalk.wrap64_in _ (by show _ ∧ _ ≤ _; have e : lf 64 k = low k := rfl; rw [e]; omega)

/-! ### Sums -/
/-- The sum of A over lo ≤ x < lo + n. -/
def sm (A : Nat → Int) (lo : Nat) : Nat → Int
  | 0 => 0
  | n + 1 => sm A lo n + A (lo + n)
/-- The sum of A over lo ≤ x < hi. -/
def S (A : Nat → Int) (lo hi : Nat) : Int := sm A lo (hi - lo)

theorem sm_split (A : Nat → Int) (lo m n : Nat) : sm A lo (m + n) = sm A lo m + sm A (lo + m) n := by
  induction n with
  | zero => simp [sm]
  | succ n ih => rw [← Nat.add_assoc, sm, ih, sm, Nat.add_assoc lo m n]; omega
theorem S_split (A : Nat → Int) (a b c : Nat) (h1 : a ≤ b) (h2 : b ≤ c) : S A a c = S A a b + S A b c := by
  unfold S
  have := sm_split A a (b - a) (c - b)
  rw [show b - a + (c - b) = c - a by omega, show a + (b - a) = b by omega] at this
  exact this
theorem S_self (A : Nat → Int) (a : Nat) : S A a a = 0 := by unfold S; rw [Nat.sub_self]; rfl
theorem S_snoc (A : Nat → Int) (a : Nat) : S A 0 (a + 1) = S A 0 a + A a := by
  unfold S; show sm A 0 (a + 1) = _; rw [sm, Nat.zero_add]; rfl
/-- One more v at place p. -/
def bump (A : Nat → Int) (p : Nat) (v : Int) : Nat → Int := fun x => if x = p then A x + v else A x
theorem sm_bump (A : Nat → Int) (p : Nat) (v : Int) (lo n : Nat) : sm (bump A p v) lo n = sm A lo n + if lo ≤ p ∧ p < lo + n then v else 0 := by
  induction n with
  | zero => rw [sm, sm, if_neg (by omega)]; rfl
  | succ n ih =>
    rw [sm, sm, ih]
    unfold bump
    by_cases h : lo + n = p
    · rw [if_pos h, if_neg (by omega), if_pos (by omega)]; omega
    · rw [if_neg h]
      by_cases h2 : lo ≤ p ∧ p < lo + n
      · rw [if_pos h2, if_pos (by omega)]; omega
      · rw [if_neg h2, if_neg (by omega)]; omega
theorem S_bump (A : Nat → Int) (p : Nat) (v : Int) (lo hi : Nat) (h : lo ≤ hi) : S (bump A p v) lo hi = S A lo hi + if lo ≤ p ∧ p < hi then v else 0 := by
  unfold S; rw [sm_bump, show lo + (hi - lo) = hi by omega]

theorem w64_add (a b : Int) : wrap64 (wrap64 a + b) = wrap64 (a + b) := by unfold wrap64; omega
theorem w64_add2 (a b : Int) : wrap64 (wrap64 a + wrap64 b) = wrap64 (a + b) := by unfold wrap64; omega

/-- What cell j of the tree of A holds. -/
def T (A : Nat → Int) (j : Nat) : Int := wrap64 (S A (j - low j) j)
theorem low_le (j : Nat) (h1 : j < 2 ^ 64) : low j ≤ j := by
  rcases Nat.eq_zero_or_pos j with rfl | h
  · decide
  · exact (low_bd j h h1).2
theorem T_bump (A : Nat → Int) (p : Nat) (v : Int) (j : Nat) : T (bump A p v) j = if cov (p + 1) j then wrap64 (T A j + v) else T A j := by
  unfold T
  rw [S_bump A p v _ _ (by omega)]
  by_cases h : cov (p + 1) j = true
  · rw [if_pos h, w64_add]
    simp only [cov, decide_eq_true_eq] at h
    rw [if_pos (by omega)]
  · rw [if_neg h]
    simp only [cov, decide_eq_true_eq] at h
    rw [if_neg (by omega), Int.add_zero]
theorem T_zero (j : Nat) : T (fun _ => 0) j = 0 := by
  have h : ∀ lo n, sm (fun _ => 0) lo n = 0 := by
    intro lo n
    induction n with
    | zero => rfl
    | succ n ih => rw [sm, ih]; rfl
  unfold T S
  rw [h]
  unfold wrap64; omega

end Go.Proofs.Ybulkdmyq.Fen
