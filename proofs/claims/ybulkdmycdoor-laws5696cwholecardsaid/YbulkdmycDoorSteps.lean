/-
  THE WALKS' LAST LINES, OUTSIDE THE WALKS: what the words of the frame are, by the plain law (YbulkdmycDoorGf.lean).
-/
import Derived.Test.YbulkdmycDoorGf
import Derived.Test.YbulkdmycDoorWords
namespace Go.Proofs.YbulkdmycDoor
open Gf

/-- What the model's loop holds at the head of its round k. -/
def Inv (a b c d zh zl : BitVec 64) (k : Nat) : Prop := J zh.toNat zl.toNat = hor (J a.toNat b.toNat) (J c.toNat d.toNat) k

theorem inv_zero (a b c d : BitVec 64) : Inv a b c d 0#64 0#64 0 := by
  show J 0 0 = 0
  decide

/-- A round of the model. -/
theorem inv_step (a b c d zh zl : BitVec 64) (k : Nat) (h : Inv a b c d zh zl k) (s : Bool) (hs : (J c.toNat d.toNat).testBit (127 - k) = s) :
    Inv a b c d ((zh <<< 1 ||| zl >>> 63) ^^^ (if s then a else 0#64)) ((zl <<< 1 ^^^ (if zh.toNat >>> 63 = 1 then 135#64 else 0#64)) ^^^ (if s then b else 0#64)) (k + 1) := by
  unfold Inv at *
  rw [hor, ← h, hs, ← J_dbl zh.toNat zl.toNat zh.isLt zl.isLt]
  have e : (if s = true then J a.toNat b.toNat else 0) = J (if s = true then a else 0#64).toNat (if s = true then b else 0#64).toNat := by
    cases s
    · show 0 = J 0 0; decide
    · rfl
  have e2 : (if zh.toNat >>> 63 = 1 then 135#64 else 0#64).toNat = if zh.toNat >>> 63 = 1 then 0x87 else 0 := by split <;> rfl
  rw [e, ← J_xor, BitVec.toNat_xor, BitVec.toNat_or, BitVec.toNat_xor, BitVec.toNat_xor, e2, BitVec.toNat_shiftLeft, BitVec.toNat_shiftLeft, BitVec.toNat_ushiftRight]

theorem bit_hi (c d : BitVec 64) (k : Nat) (hk : k < 64) (s : Bool) (h : (bits BinOp.and IntKind.u64 (B c / 2 ^ (127 - k - 64)) 1 == 1) = s) :
    (J c.toNat d.toNat).testBit (127 - k) = s := by
  rw [bitTest] at h
  rw [J_bit _ _ _ d.isLt, if_neg (by omega), h]
theorem bit_lo (c d : BitVec 64) (k : Nat) (hk : 64 ≤ k) (s : Bool) (h : (bits BinOp.and IntKind.u64 (B d / 2 ^ (127 - k)) 1 == 1) = s) :
    (J c.toNat d.toNat).testBit (127 - k) = s := by
  rw [bitTest] at h
  rw [J_bit _ _ _ d.isLt, if_pos (by omega), h]

/-- The ends of a round, in the walk's spelling: the top bit and the tested bit set or not. -/
theorem end_tt (a b c d zh zl : BitVec 64) (k : Nat) (h : Inv a b c d zh zl k) (ht : (B zh / (9223372036854775808 : Int) == 1) = true) (hs : (J c.toNat d.toNat).testBit (127 - k) = true) :
    ∃ p q : BitVec 64, bits .xor .u64 (bits .or .u64 (IntKind.u64.wrap (B zh * 2)) (B zl / (9223372036854775808 : Int))) (B a) = B p ∧
      bits .xor .u64 (bits .xor .u64 (IntKind.u64.wrap (B zl * 2)) 135) (B b) = B q ∧ Inv a b c d p q (k + 1) := by
  have := inv_step a b c d zh zl k h true hs
  rw [topTest, decide_eq_true_eq] at ht
  rw [if_pos ht] at this
  simp only [if_true] at this
  exact ⟨_, _, by rw [shl1, shr63, B_or, B_xor], by rw [shl1, B_red, B_xor, B_xor], this⟩
theorem end_tf (a b c d zh zl : BitVec 64) (k : Nat) (h : Inv a b c d zh zl k) (ht : (B zh / (9223372036854775808 : Int) == 1) = true) (hs : (J c.toNat d.toNat).testBit (127 - k) = false) :
    ∃ p q : BitVec 64, bits .or .u64 (IntKind.u64.wrap (B zh * 2)) (B zl / (9223372036854775808 : Int)) = B p ∧
      bits .xor .u64 (IntKind.u64.wrap (B zl * 2)) 135 = B q ∧ Inv a b c d p q (k + 1) := by
  have := inv_step a b c d zh zl k h false hs
  rw [topTest, decide_eq_true_eq] at ht
  rw [if_pos ht] at this
  simp only [Bool.false_eq_true, if_false, BitVec.xor_zero] at this
  exact ⟨_, _, by rw [shl1, shr63, B_or], by rw [shl1, B_red, B_xor], this⟩
theorem end_ft (a b c d zh zl : BitVec 64) (k : Nat) (h : Inv a b c d zh zl k) (ht : (B zh / (9223372036854775808 : Int) == 1) = false) (hs : (J c.toNat d.toNat).testBit (127 - k) = true) :
    ∃ p q : BitVec 64, bits .xor .u64 (bits .or .u64 (IntKind.u64.wrap (B zh * 2)) (B zl / (9223372036854775808 : Int))) (B a) = B p ∧
      bits .xor .u64 (IntKind.u64.wrap (B zl * 2)) (B b) = B q ∧ Inv a b c d p q (k + 1) := by
  have := inv_step a b c d zh zl k h true hs
  rw [topTest, decide_eq_false_iff_not] at ht
  rw [if_neg ht] at this
  simp only [if_true, BitVec.xor_zero] at this
  exact ⟨_, _, by rw [shl1, shr63, B_or, B_xor], by rw [shl1, B_xor], this⟩
theorem end_ff (a b c d zh zl : BitVec 64) (k : Nat) (h : Inv a b c d zh zl k) (ht : (B zh / (9223372036854775808 : Int) == 1) = false) (hs : (J c.toNat d.toNat).testBit (127 - k) = false) :
    ∃ p q : BitVec 64, bits .or .u64 (IntKind.u64.wrap (B zh * 2)) (B zl / (9223372036854775808 : Int)) = B p ∧
      IntKind.u64.wrap (B zl * 2) = B q ∧ Inv a b c d p q (k + 1) := by
  have := inv_step a b c d zh zl k h false hs
  rw [topTest, decide_eq_false_iff_not] at ht
  rw [if_neg ht] at this
  simp only [Bool.false_eq_true, if_false, BitVec.xor_zero] at this
  exact ⟨_, _, by rw [shl1, shr63, B_or], by rw [shl1], this⟩

/-- The five lanes as words. -/
def L (i : Nat) : BitVec 64 := BitVec.ofNat 64 (lane i)
theorem L_nat : ∀ i, i < 5 → (L i).toNat = lane i := by decide +kernel

theorem L0 : (L 0).toNat = lane 0 := L_nat 0 (by omega)
theorem L1 : (L 1).toNat = lane 1 := L_nat 1 (by omega)
theorem L2 : (L 2).toNat = lane 2 := L_nat 2 (by omega)
theorem L3 : (L 3).toNat = lane 3 := L_nat 3 (by omega)
theorem L4 : (L 4).toNat = lane 4 := L_nat 4 (by omega)

/-- clmul's two words, out of its five pairs of sums. -/
theorem words_of (q : Nat → Nat → Nat → Nat → Nat → Nat → Nat → Nat → Nat → Nat → Nat) (x y h0 h1 h2 h3 h4 m0 m1 m2 m3 m4 : BitVec 64)
    (e0 : h0.toNat = q (x &&& L 0).toNat (y &&& L 0).toNat (x &&& L 1).toNat (y &&& L 4).toNat (x &&& L 2).toNat (y &&& L 3).toNat (x &&& L 3).toNat (y &&& L 2).toNat (x &&& L 4).toNat (y &&& L 1).toNat)
    (e1 : h1.toNat = q (x &&& L 0).toNat (y &&& L 1).toNat (x &&& L 1).toNat (y &&& L 0).toNat (x &&& L 2).toNat (y &&& L 4).toNat (x &&& L 3).toNat (y &&& L 3).toNat (x &&& L 4).toNat (y &&& L 2).toNat)
    (e2 : h2.toNat = q (x &&& L 0).toNat (y &&& L 2).toNat (x &&& L 1).toNat (y &&& L 1).toNat (x &&& L 2).toNat (y &&& L 0).toNat (x &&& L 3).toNat (y &&& L 4).toNat (x &&& L 4).toNat (y &&& L 3).toNat)
    (e3 : h3.toNat = q (x &&& L 0).toNat (y &&& L 3).toNat (x &&& L 1).toNat (y &&& L 2).toNat (x &&& L 2).toNat (y &&& L 1).toNat (x &&& L 3).toNat (y &&& L 0).toNat (x &&& L 4).toNat (y &&& L 4).toNat)
    (e4 : h4.toNat = q (x &&& L 0).toNat (y &&& L 4).toNat (x &&& L 1).toNat (y &&& L 3).toNat (x &&& L 2).toNat (y &&& L 2).toNat (x &&& L 3).toNat (y &&& L 1).toNat (x &&& L 4).toNat (y &&& L 0).toNat) :
    (h0 &&& m0 ||| h1 &&& m1 ||| h2 &&& m2 ||| h3 &&& m3 ||| h4 &&& m4).toNat =
      clw q m0.toNat m1.toNat m2.toNat m3.toNat m4.toNat (x.toNat &&& lane 0) (x.toNat &&& lane 1) (x.toNat &&& lane 2) (x.toNat &&& lane 3) (x.toNat &&& lane 4) (y.toNat &&& lane 0) (y.toNat &&& lane 1) (y.toNat &&& lane 2) (y.toNat &&& lane 3) (y.toNat &&& lane 4) := by
  simp only [BitVec.toNat_and, L0, L1, L2, L3, L4] at e0 e1 e2 e3 e4
  simp only [BitVec.toNat_or, BitVec.toNat_and, e0, e1, e2, e3, e4, clw]

/-! ### mul128's last lines -/
def wt (w3 : BitVec 64) : BitVec 64 := w3 >>> 63 ^^^ w3 >>> 62 ^^^ w3 >>> 57
def wzh (w3 w2 w1 : BitVec 64) : BitVec 64 := w1 ^^^ w3 ^^^ (w3 <<< 1 ||| w2 >>> 63) ^^^ (w3 <<< 2 ||| w2 >>> 62) ^^^ (w3 <<< 7 ||| w2 >>> 57)
def wzl (w3 w2 w0 : BitVec 64) : BitVec 64 := w0 ^^^ w2 ^^^ w2 <<< 1 ^^^ w2 <<< 2 ^^^ w2 <<< 7 ^^^ wt w3 ^^^ wt w3 <<< 1 ^^^ wt w3 <<< 2 ^^^ wt w3 <<< 7

theorem fold_h (w3 w2 w1 : BitVec 64) :
    bits .xor .u64 (bits .xor .u64 (bits .xor .u64 (B (w1 ^^^ w3)) (bits .or .u64 (IntKind.u64.wrap (B w3 * 2)) (B w2 / (9223372036854775808 : Int))))
      (bits .or .u64 (IntKind.u64.wrap (B w3 * 4)) (B w2 / (4611686018427387904 : Int)))) (bits .or .u64 (IntKind.u64.wrap (B w3 * 128)) (B w2 / (144115188075855872 : Int))) = B (wzh w3 w2 w1) := by
  rw [shl1, shl2, shl7, shr63, shr62, shr57, B_or, B_or, B_or, B_xor, B_xor, B_xor]; rfl
theorem fold_t (w3 : BitVec 64) : bits .xor .u64 (bits .xor .u64 (B w3 / (9223372036854775808 : Int)) (B w3 / (4611686018427387904 : Int))) (B w3 / (144115188075855872 : Int)) = B (wt w3) := by
  rw [shr63, shr62, shr57, B_xor, B_xor]; rfl
theorem fold_l (w3 w2 w0 : BitVec 64) :
    bits .xor .u64 (bits .xor .u64 (bits .xor .u64 (bits .xor .u64 (bits .xor .u64 (bits .xor .u64 (bits .xor .u64 (B (w0 ^^^ w2)) (IntKind.u64.wrap (B w2 * 2))) (IntKind.u64.wrap (B w2 * 4))) (IntKind.u64.wrap (B w2 * 128)))
      (bits .xor .u64 (bits .xor .u64 (B w3 / (9223372036854775808 : Int)) (B w3 / (4611686018427387904 : Int))) (B w3 / (144115188075855872 : Int))))
      (IntKind.u64.wrap (bits .xor .u64 (bits .xor .u64 (B w3 / (9223372036854775808 : Int)) (B w3 / (4611686018427387904 : Int))) (B w3 / (144115188075855872 : Int)) * 2)))
      (IntKind.u64.wrap (bits .xor .u64 (bits .xor .u64 (B w3 / (9223372036854775808 : Int)) (B w3 / (4611686018427387904 : Int))) (B w3 / (144115188075855872 : Int)) * 4)))
      (IntKind.u64.wrap (bits .xor .u64 (bits .xor .u64 (B w3 / (9223372036854775808 : Int)) (B w3 / (4611686018427387904 : Int))) (B w3 / (144115188075855872 : Int)) * 128)) = B (wzl w3 w2 w0) := by
  rw [fold_t, shl1, shl2, shl7, shl1, shl2, shl7, B_xor, B_xor, B_xor, B_xor, B_xor, B_xor, B_xor]; rfl

theorem wt_nat (w3 : BitVec 64) : (wt w3).toNat = tw w3.toNat := by
  unfold wt tw; simp only [BitVec.toNat_xor, BitVec.toNat_ushiftRight]
theorem wzh_nat (w3 w2 w1 : BitVec 64) : (wzh w3 w2 w1).toNat = zh w3.toNat w2.toNat w1.toNat := by
  unfold wzh zh; simp only [BitVec.toNat_xor, BitVec.toNat_or, BitVec.toNat_ushiftRight, BitVec.toNat_shiftLeft]
theorem wzl_nat (w3 w2 w0 : BitVec 64) : (wzl w3 w2 w0).toNat = zl w3.toNat w2.toNat w0.toNat := by
  unfold wzl zl; simp only [BitVec.toNat_xor, BitVec.toNat_shiftLeft, wt_nat]

theorem mul_inv (a b c d h1 l1 h0 l0 hm lm : BitVec 64) (eh1 : h1.toNat = clh a.toNat c.toNat) (el1 : l1.toNat = cll a.toNat c.toNat) (eh0 : h0.toNat = clh b.toNat d.toNat) (el0 : l0.toNat = cll b.toNat d.toNat)
    (ehm : hm.toNat = clh (a ^^^ b).toNat (c ^^^ d).toNat) (elm : lm.toNat = cll (a ^^^ b).toNat (c ^^^ d).toNat) :
    Inv a b c d (wzh h1 (l1 ^^^ (hm ^^^ (h1 ^^^ h0))) (h0 ^^^ (lm ^^^ (l1 ^^^ l0)))) (wzl h1 (l1 ^^^ (hm ^^^ (h1 ^^^ h0))) l0) 128 := by
  unfold Inv
  have := plain a.toNat b.toNat c.toNat d.toNat a.isLt b.isLt c.isLt d.isLt
  unfold mh ml at this
  rw [wzh_nat, wzl_nat]
  simp only [BitVec.toNat_xor] at ehm elm ⊢
  rw [eh1, el1, eh0, el0, ehm, elm]
  exact this

theorem Inv.unique {a b c d h l h' l' : BitVec 64} {k : Nat} (i : Inv a b c d h l k) (i' : Inv a b c d h' l' k) : h = h' ∧ l = l' := by
  unfold Inv at *
  obtain ⟨e1, e2⟩ := J_inj _ _ _ _ l.isLt l'.isLt (i.trans i'.symm)
  exact ⟨BitVec.eq_of_toNat_eq e1, BitVec.eq_of_toNat_eq e2⟩

end Go.Proofs.YbulkdmycDoor
