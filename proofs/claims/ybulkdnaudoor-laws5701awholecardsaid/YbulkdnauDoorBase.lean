/-
  THE PLAIN PART OF SEAT b5701aD: the kept entries, the indicators' texts; frames of worlds. No Go text in sight.
-/
import Derived.WalkKit
import Derived.WalkSpells
import Derived.WalkLawsBesides
import Derived.Deep.OwnRows
namespace Go.Proofs.YbulkdnauDoor
open Go.RowKit

/-- The longest beginning of the first n numbers whose last is at most c. -/
def keep (zs : Nat → Int) (c : Int) : Nat → Nat
  | 0 => 0
  | n + 1 => if c < zs n then keep zs c n else n + 1
theorem keep_le (zs : Nat → Int) (c : Int) (n : Nat) : keep zs c n ≤ n := by
  induction n with
  | zero => exact Nat.le_refl _
  | succ n ih => rw [keep]; split <;> omega
/-- The same, found from the front. -/
def front (zs : Nat → Int) (c : Int) : Nat → Nat
  | 0 => 0
  | n + 1 => if zs n ≤ c then n + 1 else front zs c n
theorem front_keep (zs : Nat → Int) (c : Int) (n : Nat) : front zs c n = keep zs c n := by
  induction n with
  | zero => rfl
  | succ n ih =>
    rw [front, keep, ih]
    by_cases h : zs n ≤ c
    · rw [if_pos h, if_neg (by omega)]
    · rw [if_neg h, if_pos (by omega)]

/-- w' is w but for the blocks of S, and for new ones. -/
structure Keep (S : Nat → Prop) (w w' : World) : Prop where
  os : w'.os = w.os
  tape : w'.tape = w.tape
  output : w'.output = w.output
  size : w.heap.size ≤ w'.heap.size
  block : ∀ k, k < w.heap.size → ¬ S k → w'.heap[k]? = w.heap[k]?
section
variable {S : Nat → Prop} {a b c w : World}
theorem Keep.refl (S : Nat → Prop) (w : World) : Keep S w w := ⟨rfl, rfl, rfl, Nat.le_refl _, fun _ _ _ => rfl⟩
theorem Keep.trans (h : Keep S a b) (k : Keep S b c) : Keep S a c :=
  ⟨k.os.trans h.os, k.tape.trans h.tape, k.output.trans h.output, Nat.le_trans h.size k.size, fun j hj hs => (k.block j (Nat.lt_of_lt_of_le hj h.size) hs).trans (h.block j hj hs)⟩
theorem Keep.mono {T : Nat → Prop} (h : Keep S a b) (hS : ∀ k, k < a.heap.size → S k → T k) : Keep T a b := ⟨h.os, h.tape, h.output, h.size, fun j hj hs => h.block j hj (fun hh => hs (hS j hj hh))⟩
theorem Keep.drewN (h : Keep S a w) (n : Nat) : Keep S a (w.drewN n) := ⟨h.os, h.tape, h.output, h.size, h.block⟩
theorem Keep.drew (h : Keep S a w) : Keep S a w.drew := ⟨h.os, h.tape, h.output, h.size, h.block⟩
theorem Keep.setCell (h : Keep S a w) (g i : Nat) (v : Value) (hg : S g ∨ a.heap.size ≤ g) : Keep S a (w.setCell ⟨g, i, none⟩ v) :=
  ⟨h.os, h.tape, h.output, by have := h.size; simp [World.setCell]; omega, fun k hk hs => by
    rw [Below.heap_setCell w _ v k (by
      intro e
      have e' : k = g := e
      rcases hg with hg | hg
      · exact hs (e' ▸ hg)
      · omega)]
    exact h.block k hk hs⟩
theorem Keep.alloc (h : Keep S a w) (o : Obj) : Keep S a (w.alloc o) :=
  ⟨h.os, h.tape, h.output, by have := h.size; simp; omega, fun k hk hs => by rw [Below.heap_alloc w o k (Nat.lt_of_lt_of_le hk h.size)]; exact h.block k hk hs⟩
theorem Keep.grown {w' : World} {row : Option Nat} (h : Keep S a w) (hg : w.grownBy w' row) (hr : ∀ k, row = some k → S k ∨ a.heap.size ≤ k) : Keep S a w' :=
  ⟨hg.os.trans h.os, hg.tape.trans h.tape, hg.output.trans h.output, Nat.le_trans h.size hg.size, fun k hk hs => by
    rw [hg.block k (Nat.lt_of_lt_of_le hk h.size) (by
      intro e
      rcases hr k e.symm with h1 | h1
      · exact hs h1
      · omega)]
    exact h.block k hk hs⟩
theorem Keep.cell (h : Keep S a w) {x : Addr} (hx : x.block < a.heap.size) (hs : ¬ S x.block) : w.cell? x = a.cell? x := World.cell?_of_block (w := a) (h.block x.block hx hs)
theorem Keep.cellAt (h : Keep S a w) {x : Addr} {v : Value} (hc : a.cell? x = some v) (hs : ¬ S x.block) : w.cell? x = some v := by
  rw [h.cell _ hs]
  · exact hc
  · simp only [World.cell?] at hc
    split at hc
    · rename_i hb
      obtain ⟨hlt, _⟩ := Array.getElem?_eq_some_iff.1 hb
      exact hlt
    · cases hc
theorem Keep.frozen (h : Keep S a w) {x : Addr} (hx : x.block < a.heap.size) (hs : ¬ S x.block) : w.frozen? x = a.frozen? x := World.frozen?_of_block (w := a) (h.block x.block hx hs)
theorem Keep.row (h : Keep S a w) {g t n : Nat} {f : Nat → Value} (hr : a.rowIs g t n f) (hs : ¬ S g) : w.rowIs g t n f := hr.of_block (h.block g hr.lt hs)
theorem Keep.below {B : Nat} (h : Keep S a w) (hB : ∀ k, S k → B ≤ k) (hs : B ≤ a.heap.size) : Below B a w := ⟨h.os, h.tape, h.output, h.size, fun k hk => h.block k (by omega) (fun hh => by have := hB k hh; omega)⟩
theorem Below.toKeep {B : Nat} (h : Below B a w) (hB : ∀ k, k < a.heap.size → ¬ S k → k < B) : Keep S a w := ⟨h.os, h.tape, h.output, h.size, fun k hk hs => h.block k (hB k hk hs)⟩
end

/-- The indicators' texts, by kind. -/
def ind : Nat → ByteArray
  | 9 => ⟨#[45, 45, 45]⟩
  | 10 => ⟨#[46, 46, 46]⟩
  | 11 => ⟨#[45]⟩
  | 12 => ⟨#[63]⟩
  | 13 => ⟨#[58]⟩
  | 14 => ⟨#[91]⟩
  | 15 => ⟨#[93]⟩
  | 16 => ⟨#[123]⟩
  | 17 => ⟨#[125]⟩
  | 18 => ⟨#[44]⟩
  | _ => ⟨#[]⟩
end Go.Proofs.YbulkdnauDoor
