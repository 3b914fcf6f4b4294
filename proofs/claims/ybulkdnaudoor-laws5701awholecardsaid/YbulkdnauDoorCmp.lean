/-
  COMPARING: tokens, and rows of whole numbers.
-/
import Derived.Test.YbulkdnauDoorSl
import Derived.Test.YbulkdnauDoorTok
import Derived.Laws.StructEq
import Derived.Laws.OwnMore
import Derived.Laws.IdiomStrings
namespace Go.Proofs.YbulkdnauDoor
open Go.RowKit

theorem eq_tok (w : World) (k l c : Int) (b : Bool) (s : ByteArray) : (Op.equalIn 10000 28 (.agg #[.int .u8 k, .bool b, .int .i32 l, .int .i32 c, .string s]) (.agg #[.int .u8 k, .bool b, .int .i32 l, .int .i32 c, .string s])).run Ybad.prog w = .ok true w := by
  have u24 := Ybad.underlying24
  have u4 := Ybad.underlying4
  have u21 := Ybad.underlying21
  have u9 := Ybad.underlying9
  have hS : Ybad.prog.underlying 28 = some (.struct (Ybad.prog.fieldsOf 28)) := by kernel_rfl
  have hp : Ybad.prog.stoodInHeld 28 = false := by kernel_rfl
  rw [show (10000 : Nat) = 9999 + 1 from rfl, run_equalIn_agg w 9999 28 _ _ hS hp]
  simp only [Program.fieldsOf, Ybad.underlying28]
  go_simp
theorem neq_tok (w : World) (k l c : Int) (b : Bool) (s : ByteArray) : (binOp .neq 28 (.agg #[.int .u8 k, .bool b, .int .i32 l, .int .i32 c, .string s]) (.agg #[.int .u8 k, .bool b, .int .i32 l, .int .i32 c, .string s])).run Ybad.prog w = .ok (.bool false) w := by
  rw [run_neq_struct, eq_tok]
  rfl

/-- The entries as they came in: nil, or a row. -/
def IsEnt (w : World) (a : Option Addr) (n c : Nat) (zs : Nat → Int) : Prop := (a = none ∧ n = 0 ∧ c = 0) ∨ (∃ x, a = some x ∧ n = 0) ∨ ∃ b o, a = some ⟨b, o, none⟩ ∧ ∀ j, j < n → w.cell? ⟨b, o + j, none⟩ = some (.int .i64 (zs j))
theorem IsEnt.later {B : Nat} {w w' : World} {a : Option Addr} {n c : Nat} {zs : Nat → Int} (h : IsEnt w a n c zs) (hb : Below B w w') (hB : B = w.heap.size) : IsEnt w' a n c zs := by
  subst hB
  rcases h with h | h | ⟨b, o, ha, hc⟩
  · exact .inl h
  · exact .inr (.inl h)
  · exact .inr (.inr ⟨b, o, ha, fun j hj => cell_later hb (hc j hj)⟩)
theorem add_none (b o j : Nat) : (⟨b, o, none⟩ : Addr).add j = ⟨b, o + j, none⟩ := by
  unfold Addr.add
  split
  · rename_i h; subst h; rfl
  · rfl
theorem clone_any (a : Option Addr) (n c : Nat) (zs : Nat → Int) (w : World) (hn : n ≤ 1048576) (h : IsEnt w a n c zs) :
    Calls Ybad.prog 4 #[.slice a n c] w fun e w' => ∃ v', e = .returned v' ∧ w'.ownsRow w.heap.size 3 1 v' n (ints zs n) ∧ Below w.heap.size w w' := by
  rcases h with ⟨rfl, rfl, rfl⟩ | ⟨x, rfl, rfl⟩ | ⟨b, o, rfl, hc⟩
  rotate_left
  · exact clone_some x 0 c zs w hn (fun j hj => by omega)
  rotate_left
  · refine (clone_nil w).mono ?_
    rintro e w' ⟨rfl, rfl⟩
    exact ⟨_, rfl, World.ownsRow_nil _ _ _ _, Below.refl _ _⟩
  · exact clone_some _ n c zs w hn (fun j hj => by rw [add_none]; exact hc j hj)

theorem own_int {w : World} {B n : Nat} {v : Value} {zs : Nat → Int} (h : w.ownsRow B 3 1 v n (ints zs n)) : (v = .slice none 0 0 ∧ n = 0) ∨ ∃ g c, v = .slice (some ⟨g, 0, none⟩) n c ∧ ∀ j, j < n → w.cell? ⟨g, 0 + j, none⟩ = some (.int .i64 (zs j)) := by
  rcases h.2 with ⟨rfl, h0⟩ | ⟨g, cap, c, rfl, _⟩
  · exact .inl ⟨rfl, h0⟩
  · refine .inr ⟨g, cap, rfl, fun j hj => ?_⟩
    rw [Nat.zero_add]
    exact (h.cellAt j (by omega)).trans (ints_at' _ _ _ hj)

theorem equal_ent (a : Option Addr) (v : Value) (B n c : Nat) (zs : Nat → Int) (w : World) (hn : n ≤ 1048577) (h1 : w.ownsRow B 3 1 v n (ints zs n)) (h2 : IsEnt w a n c zs) :
    Calls Ybad.prog 7 #[v, .slice a n c] w fun e w' => e = .returned (.bool true) ∧ ∃ q, w' = w.drewN q := by
  rcases own_int h1 with ⟨rfl, rfl⟩ | ⟨g, cap, rfl, hg⟩
  · exact equal_none _ _ _ _ _
  · rcases h2 with ⟨rfl, rfl, rfl⟩ | ⟨x, rfl, rfl⟩ | ⟨b, o, rfl, hc⟩
    · exact equal_none _ _ _ _ _
    · exact equal_none _ _ _ _ _
    · exact equal_some _ _ _ _ _ _ _ zs w hn hg hc
theorem equal_own (v v' : Value) (B B' n : Nat) (zs : Nat → Int) (w : World) (hn : n ≤ 1048577) (h1 : w.ownsRow B 3 1 v n (ints zs n)) (h2 : w.ownsRow B' 3 1 v' n (ints zs n)) :
    Calls Ybad.prog 7 #[v, v'] w fun e w' => e = .returned (.bool true) ∧ ∃ q, w' = w.drewN q := by
  rcases own_int h1 with ⟨rfl, rfl⟩ | ⟨g, cap, rfl, hg⟩
  · rcases own_int h2 with ⟨rfl, _⟩ | ⟨g', cap', rfl, hg'⟩
    · exact equal_none _ _ _ _ _
    · exact equal_none _ _ _ _ _
  · rcases own_int h2 with ⟨rfl, rfl⟩ | ⟨g', cap', rfl, hg'⟩
    · exact equal_none _ _ _ _ _
    · exact equal_some _ _ _ _ _ _ _ zs w hn hg hg'
theorem ints_snoc (zs : Nat → Int) (K : Nat) (x : Int) : ints zs K ++ [.int .i64 x] = ints (fun j => if j = K then x else zs j) (K + 1) := by
  unfold ints
  rw [List.range_succ, List.map_append]
  congr 1
  · exact List.map_congr_left (fun j hj => by have := List.mem_range.1 hj; dsimp only; rw [if_neg (by omega)])
  · simp
theorem own_slice {w : World} {B t s n : Nat} {v : Value} {xs : List Value} (h : w.ownsRow B t s v n xs) : ∃ a c, v = .slice a n c := by
  rcases h.2 with ⟨rfl, rfl⟩ | ⟨g, cap, c, rfl, _⟩
  · exact ⟨_, _, rfl⟩
  · exact ⟨_, _, rfl⟩
theorem tok_old {w : World} {B g m cap : Nat} {ps : Nat → Int} {X : List Value} (h : w.ownsRow B 28 5 (.slice (some ⟨g, 0, none⟩) (m + 1) cap) (m + 1) (toks ps m ++ X)) (j : Nat) (hj : j < m) :
    w.cell? ⟨g, j * 5, none⟩ = some (.int .u8 (ps j % 256 % 19)) ∧ w.cell? ⟨g, j * 5 + 1, none⟩ = some (.bool false) ∧ w.cell? ⟨g, j * 5 + 2, none⟩ = some (.int .i32 (ps j)) ∧ w.cell? ⟨g, j * 5 + 3, none⟩ = some (.int .i32 (ps j)) ∧ w.cell? ⟨g, j * 5 + 4, none⟩ = some (.string ⟨#[112]⟩) := by
  have a := fun i (hi : i < m * 5) => (h.cellAt i (by omega)).trans ((List.getElem?_append_left (by rw [toks_length]; exact hi)).trans (toks_at ps m i hi))
  refine ⟨?_, ?_, ?_, ?_, ?_⟩
  · rw [a _ (by omega), tokF0]
  · rw [a _ (by omega), tokF1]
  · rw [a _ (by omega), tokF2]
  · rw [a _ (by omega), tokF3]
  · rw [a _ (by omega), tokF4]
theorem tok_new {w : World} {B g m cap : Nat} {ps : Nat → Int} {x0 x1 x2 x3 x4 : Value} (h : w.ownsRow B 28 5 (.slice (some ⟨g, 0, none⟩) (m + 1) cap) (m + 1) (toks ps m ++ [x0, x1, x2, x3, x4])) :
    w.cell? ⟨g, m * 5, none⟩ = some x0 ∧ w.cell? ⟨g, m * 5 + 1, none⟩ = some x1 ∧ w.cell? ⟨g, m * 5 + 2, none⟩ = some x2 ∧ w.cell? ⟨g, m * 5 + 3, none⟩ = some x3 ∧ w.cell? ⟨g, m * 5 + 4, none⟩ = some x4 := by
  have a := fun i (hi : i < 5) => (h.cellAt (m * 5 + i) (by omega)).trans ((List.getElem?_append_right (by rw [toks_length]; omega)))
  simp only [toks_length, Nat.add_sub_cancel_left] at a
  exact ⟨a 0 (by omega), a 1 (by omega), a 2 (by omega), a 3 (by omega), a 4 (by omega)⟩

/-- The scanner's cells before the call. -/
def scan (d pos line flows ve vt : Value) : Nat → Value
  | 0 => d
  | 1 => pos
  | 2 => line
  | 3 => .int .i64 3
  | 4 => .int .i64 4
  | 5 => .int .i64 5
  | 6 => .bool true
  | 7 => flows
  | 8 => ve
  | 9 => vt
  | _ => .slice none 0 0
theorem scan_row (w : World) (d pos line flows ve vt : Value) : (w.alloc (.cells #[d, pos, line, .int .i64 3, .int .i64 4, .int .i64 5, .bool true, flows, ve, vt, .slice none 0 0] 32)).rowIs w.heap.size 32 11 (scan d pos line flows ve vt) :=
  World.rowIs_alloc w _ 32 _ (fun i hi => by
    have hi' : i < 11 := hi
    rcases (show i = 0 ∨ i = 1 ∨ i = 2 ∨ i = 3 ∨ i = 4 ∨ i = 5 ∨ i = 6 ∨ i = 7 ∨ i = 8 ∨ i = 9 ∨ i = 10 by omega) with rfl | rfl | rfl | rfl | rfl | rfl | rfl | rfl | rfl | rfl | rfl <;> rfl)

/-- The data's bytes. -/
def dat : List UInt8 := [45, 32, 97, 58, 32, 98]
theorem dat_cells (w : World) (j : Nat) (hj : j < 6) : (w.alloc (.cells #[.int .u8 45, .int .u8 32, .int .u8 97, .int .u8 58, .int .u8 32, .int .u8 98] 5 (6, 7))).cell? ⟨w.heap.size, j, none⟩ = some (.int .u8 (dat[j].toNat : Int)) := by
  rw [World.cell?_alloc_mark]
  rcases (show j = 0 ∨ j = 1 ∨ j = 2 ∨ j = 3 ∨ j = 4 ∨ j = 5 by omega) with rfl | rfl | rfl | rfl | rfl | rfl <;> rfl
theorem dat_back (w : World) (g : Nat) (hc : ∀ j (hj : j < 6), w.cell? ⟨g, j, none⟩ = some (.int .u8 (dat[j].toNat : Int))) : (convert 30 9 (.slice (some ⟨g, 0, none⟩) 6 6)).run Ybad.prog w = .ok (.string ⟨#[45, 32, 97, 58, 32, 98]⟩) w :=
  run_convert_bytes_back w 30 9 5 ⟨g, 0, none⟩ 6 dat Ybad.underlying30 Ybad.underlying5 Ybad.underlying9 (fun j hj => by rw [add_none, Nat.zero_add]; exact hc j hj)
end Go.Proofs.YbulkdnauDoor
