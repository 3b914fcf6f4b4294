/-
  THE WALK of document.LawS5701AWhole, too many entries; THE THREE WALKS AS ONE.
-/
import Derived.Test.YbulkdnauDoorZero
namespace Go.Proofs.YbulkdnauDoor
open Go.RowKit

set_option maxRecDepth 100000 in
set_option maxHeartbeats 4000000 in
theorem law_long (flows pos line col : Int) (kd n ec m pc : Nat) (ea pa : Option Addr) (tb : Bool) (tl tc : Int) (tv : ByteArray) (w : World) (hnm : ¬ n + m ≤ 1048576) (hb : n + m ≤ 281474976710656) :
    Calls Ybad.prog 3 #[.int .i64 flows, .int .i64 pos, .int .i64 line, .int .i64 col, .int .u8 (kd : Int), .slice ea n ec, .slice pa m pc, .bool tb, .int .i32 tl, .int .i32 tc, .string tv] w fun e w' => e = .returned (.bool true) ∧ w' = w := by
  have h1 : (1048576 : Int) < (n : Int) + (m : Int) := by omega
  go_enter Ybad.func3, Ybad.ntmps3
  go_wp2
  go_ret
  exact ⟨rfl, rfl⟩

theorem law_any (flows pos line col : Int) (kd n ec m pc : Nat) (ea pa : Option Addr) (tb : Bool) (tl tc : Int) (tv : ByteArray) (pb po : Nat) (zs ps : Nat → Int) (w : World)
    (hkd : kd < 256) (hcap : n ≤ ec) (hb : n + m ≤ 281474976710656) (hE : IsEnt w ea n ec zs) (hP : m = 0 ∨ pa = some ⟨pb, po, none⟩) (hp : ∀ j, j < m → w.cell? ⟨pb, po + j, none⟩ = some (.int .i32 (ps j)))
    (hI : ∀ k, k < 19 → w.cell? ⟨0, k, none⟩ = some (.string (ind k))) :
    Calls Ybad.prog 3 #[.int .i64 flows, .int .i64 pos, .int .i64 line, .int .i64 col, .int .u8 (kd : Int), .slice ea n ec, .slice pa m pc, .bool tb, .int .i32 tl, .int .i32 tc, .string tv] w fun e w' => e = .returned (.bool true) ∧ Below w.heap.size w w' := by
  by_cases h : n + m ≤ 1048576
  · by_cases hfl : flows = 0
    · subst hfl
      exact law_zero pos line col kd n ec m pc ea pa tb tl tc tv pb po zs ps w hcap hkd h hE hP hp hI
    · exact law_flow flows pos line col kd n ec m pc ea pa tb tl tc tv pb po zs ps w (by simpa using hfl) hkd h hE hP hp hI
  · refine (law_long flows pos line col kd n ec m pc ea pa tb tl tc tv w h hb).mono ?_
    rintro e w' ⟨rfl, rfl⟩
    exact ⟨rfl, Below.refl _ _⟩
end Go.Proofs.YbulkdnauDoor
