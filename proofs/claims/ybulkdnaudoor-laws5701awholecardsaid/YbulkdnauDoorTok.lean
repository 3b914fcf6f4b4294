/-
  THE ROW OF PRIOR TOKENS: how it is filled, and what it is good for.
-/
import Derived.Test.YbulkdnauDoorBase
namespace Go.Proofs.YbulkdnauDoor
open Go.RowKit

/-- Cell i of the prior tokens. -/
def tokF (ps : Nat → Int) (i : Nat) : Value :=
  match i % 5 with
  | 0 => .int .u8 (ps (i / 5) % 256 % 19)
  | 1 => .bool false
  | 2 => .int .i32 (ps (i / 5))
  | 3 => .int .i32 (ps (i / 5))
  | _ => .string ⟨#[112]⟩
theorem tokF0 (ps : Nat → Int) (j : Nat) : tokF ps (j * 5) = .int .u8 (ps j % 256 % 19) := by
  unfold tokF; rw [show j * 5 % 5 = 0 by omega, show j * 5 / 5 = j by omega]; rfl
theorem tokF1 (ps : Nat → Int) (j : Nat) : tokF ps (j * 5 + 1) = .bool false := by
  unfold tokF; rw [show (j * 5 + 1) % 5 = 1 by omega]; rfl
theorem tokF2 (ps : Nat → Int) (j : Nat) : tokF ps (j * 5 + 2) = .int .i32 (ps j) := by
  unfold tokF; rw [show (j * 5 + 2) % 5 = 2 by omega, show (j * 5 + 2) / 5 = j by omega]; rfl
theorem tokF3 (ps : Nat → Int) (j : Nat) : tokF ps (j * 5 + 3) = .int .i32 (ps j) := by
  unfold tokF; rw [show (j * 5 + 3) % 5 = 3 by omega, show (j * 5 + 3) / 5 = j by omega]; rfl
theorem tokF4 (ps : Nat → Int) (j : Nat) : tokF ps (j * 5 + 4) = .string ⟨#[112]⟩ := by
  unfold tokF; rw [show (j * 5 + 4) % 5 = 4 by omega]; rfl

/-- The row when the first j tokens have been laid. -/
def fill (ps : Nat → Int) (Z : Nat → Value) (j i : Nat) : Value := if i < j * 5 then tokF ps i else Z i
theorem fill_step (ps : Nat → Int) (Z : Nat → Value) (j i : Nat) :
    (if i = j * 5 + 4 then Value.string ⟨#[112]⟩ else if i = j * 5 + 3 then .int .i32 (ps j) else if i = j * 5 + 2 then .int .i32 (ps j) else if i = j * 5 + 1 then .bool false else if i = j * 5 then .int .u8 (ps j % 256 % 19) else fill ps Z j i) = fill ps Z (j + 1) i := by
  unfold fill
  by_cases h0 : i < j * 5
  · rw [if_neg (by omega), if_neg (by omega), if_neg (by omega), if_neg (by omega), if_neg (by omega), if_pos h0, if_pos (by omega)]
  · rcases (show i = j * 5 ∨ i = j * 5 + 1 ∨ i = j * 5 + 2 ∨ i = j * 5 + 3 ∨ i = j * 5 + 4 ∨ (j + 1) * 5 ≤ i by omega) with rfl | rfl | rfl | rfl | rfl | h
    · rw [if_neg (by omega), if_neg (by omega), if_neg (by omega), if_neg (by omega), if_pos rfl, if_pos (by omega), tokF0]
    · rw [if_neg (by omega), if_neg (by omega), if_neg (by omega), if_pos rfl, if_pos (by omega), tokF1]
    · rw [if_neg (by omega), if_neg (by omega), if_pos rfl, if_pos (by omega), tokF2]
    · rw [if_neg (by omega), if_pos rfl, if_pos (by omega), tokF3]
    · rw [if_pos rfl, if_pos (by omega), tokF4]
    · rw [if_neg (by omega), if_neg (by omega), if_neg (by omega), if_neg (by omega), if_neg (by omega), if_neg h0, if_neg (by omega)]

theorem fill_row {w : World} {g m j : Nat} {ps : Nat → Int} {Z : Nat → Value} (hr : w.rowIs g 28 (m * 5) (fill ps Z j)) :
    (((((w.setCell ⟨g, j * 5, none⟩ (.int .u8 (ps j % 256 % 19))).setCell ⟨g, j * 5 + 1, none⟩ (.bool false)).setCell ⟨g, j * 5 + 2, none⟩ (.int .i32 (ps j))).setCell ⟨g, j * 5 + 3, none⟩ (.int .i32 (ps j))).setCell ⟨g, j * 5 + 4, none⟩ (.string ⟨#[112]⟩)).rowIs g 28 (m * 5) (fill ps Z (j + 1)) :=
  (((((hr.set (j * 5) _).set (j * 5 + 1) _).set (j * 5 + 2) _).set (j * 5 + 3) _).set (j * 5 + 4) _).congr (fun i _ => fill_step ps Z j i)
theorem fill_below {w0 w : World} {B g j : Nat} {a b c d e : Value} (hb : Below B w0 w) (hg : B ≤ g) :
    Below B w0 (((((w.setCell ⟨g, j * 5, none⟩ a).setCell ⟨g, j * 5 + 1, none⟩ b).setCell ⟨g, j * 5 + 2, none⟩ c).setCell ⟨g, j * 5 + 3, none⟩ d).setCell ⟨g, j * 5 + 4, none⟩ e) :=
  ((((hb.setCell hg _).setCell hg _).setCell hg _).setCell hg _).setCell hg _
theorem fill_start (w : World) (m : Nat) (ps : Nat → Int) (z : Array Value) : (w.alloc (.cells (madeCells z (m * 5)) 28)).rowIs w.heap.size 28 (m * 5) (fill ps (fun i => (madeCells z (m * 5)).getD i undef) 0) := by
  have := World.rowIs_alloc w (madeCells z (m * 5)) 28 (fill ps (fun i => (madeCells z (m * 5)).getD i undef) 0) (fun i hi => by simp [fill, Array.getD, hi])
  rw [size_madeCells] at this
  exact this

/-- The prior tokens as cells. -/
def toks (ps : Nat → Int) (m : Nat) : List Value := (List.range (m * 5)).map (tokF ps)
theorem toks_length (ps : Nat → Int) (m : Nat) : (toks ps m).length = m * 5 := by simp [toks]
theorem toks_at (ps : Nat → Int) (m i : Nat) (h : i < m * 5) : (toks ps m)[i]? = some (tokF ps i) := by simp [toks, h]
theorem own_toks {w : World} {B g m : Nat} {ps : Nat → Int} {Z : Nat → Value} (hr : w.rowIs g 28 (m * 5) (fill ps Z m)) (hB : B ≤ g) (hm : m ≤ 1048576) : w.ownsRow B 28 5 (.slice (some ⟨g, 0, none⟩) m m) m (toks ps m) := by
  obtain ⟨c, hc, hs, hi⟩ := hr
  refine ⟨toks_length ps m, .inr ⟨g, m, c, rfl, hB, hc, Nat.le_refl _, by unfold maxLen; omega, hs, ?_⟩⟩
  apply List.ext_getElem?
  intro i
  by_cases h : i < m * 5
  · rw [List.getElem?_take_of_lt h, toks_at ps m i h]
    have := hi i h
    unfold fill at this
    rw [if_pos h] at this
    simpa using this
  · rw [List.getElem?_eq_none (by simp; omega), List.getElem?_eq_none (by rw [toks_length]; omega)]
end Go.Proofs.YbulkdnauDoor
