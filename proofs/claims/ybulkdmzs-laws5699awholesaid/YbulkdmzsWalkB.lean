/-
  THE WALKS of uvarintLen, (*nodeKey).size, (*nodeKey).encodedLen.
-/
import Derived.Test.YbulkdmzsWalkA
import Derived.Deep.RegionHeld3
namespace Go.Proofs.Ybulkdmzs
open Go.RowKit

theorem U_wrap (n : Int) : IntKind.u64.wrap n = ((U n : Nat) : Int) := by
  rw [IntKind.wrap_u64]; unfold U; omega
theorem ten : ∀ i, i < (#[.int .u8 0, .int .u8 0, .int .u8 0, .int .u8 0, .int .u8 0, .int .u8 0, .int .u8 0, .int .u8 0, .int .u8 0, .int .u8 0] : Array Value).size →
    (#[.int .u8 0, .int .u8 0, .int .u8 0, .int .u8 0, .int .u8 0, .int .u8 0, .int .u8 0, .int .u8 0, .int .u8 0, .int .u8 0] : Array Value)[i]? = some (.int .u8 0) := by
  intro i hi
  simp at hi
  rcases (show i = 0 ∨ i = 1 ∨ i = 2 ∨ i = 3 ∨ i = 4 ∨ i = 5 ∨ i = 6 ∨ i = 7 ∨ i = 8 ∨ i = 9 by omega) with rfl | rfl | rfl | rfl | rfl | rfl | rfl | rfl | rfl | rfl <;> rfl

set_option maxRecDepth 100000 in
set_option maxHeartbeats 400000 in
theorem uv_any (n : Int) (w : World) :
    Calls Yba.prog 8 #[.int .i64 n] w fun e w' => ∃ v : Nat, e = .returned (.int .i64 (v : Int)) ∧ v ≤ 10 ∧ Hid (v = vl (U n)) ∧ Below w.heap.size w w' := by
  go_enter Yba.func8, Yba.ntmps8
  go_wp2_with fail
  rw [U_wrap]
  refine (put_any w.heap.size 45 (fun _ => .int .u8 0) (U n) _ (U_lt n) (World.rowIs_alloc w _ 45 _ ten)).mono ?_
  rintro e w' ⟨rfl, ho⟩
  have hb : Below w.heap.size w w' := ((Below.refl _ _).alloc (Nat.le_refl _) _).trans (ho.below (Nat.le_refl _))
  clear ho
  go_wp2
  go_ret
  exact ⟨vl (U n), rfl, (vl_bd _).2, rfl, hb⟩

set_option maxHeartbeats 400000 in
theorem ksize_short (g o lb : Nat) (a : Option Addr) (c : Nat) (w : World) (h0 : w.cell? ⟨g, o, none⟩ = some (.slice a lb c)) (h1 : w.cell? ⟨g, o + 1, none⟩ = some (.pointer none)) :
    Calls Yba.prog 9 #[.pointer (some ⟨g, o, none⟩)] w fun e w' => e = .returned (.int .i64 (lb : Int)) ∧ w' = w := by
  go_enter Yba.func9, Yba.ntmps9
  go_wp2
  go_ret
  exact ⟨rfl, rfl⟩
set_option maxHeartbeats 400000 in
theorem ksize_long (g o ob : Nat) (sz : Int) (w : World) (h1 : w.cell? ⟨g, o + 1, none⟩ = some (.pointer (some ⟨ob, 0, none⟩))) (h2 : w.cell? ⟨ob, 0, none⟩ = some (.int .i64 sz)) :
    Calls Yba.prog 9 #[.pointer (some ⟨g, o, none⟩)] w fun e w' => e = .returned (.int .i64 sz) ∧ w' = w := by
  go_enter Yba.func9, Yba.ntmps9
  go_wp2
  go_ret
  exact ⟨rfl, rfl⟩

theorem K_short (lb v : Nat) (h : v = vl (U (lb : Int))) : IntKind.i64.wrap ((v : Int) + (lb : Int)) = wrap64 (K lb none) := by
  rw [IntWalk.i64_left, h]; unfold K; simp
theorem K_long (lb : Nat) (sz : Int) (v : Nat) (h : v = vl (U sz)) : wrap64 (wrap64 ((v : Int) + (lb : Int)) + 7) = wrap64 (K lb (some sz)) := by
  rw [h, w_add]; unfold K; simp

set_option maxRecDepth 100000 in
set_option maxHeartbeats 1000000 in
theorem enc_short (g o lb : Nat) (a : Option Addr) (c : Nat) (w : World) (h0 : w.cell? ⟨g, o, none⟩ = some (.slice a lb c)) (h1 : w.cell? ⟨g, o + 1, none⟩ = some (.pointer none)) :
    Calls Yba.prog 7 #[.pointer (some ⟨g, o, none⟩)] w fun e w' => ∃ x : Int, e = .returned (.int .i64 x) ∧ Hid (x = wrap64 (K lb none)) ∧ Below w.heap.size w w' := by
  go_enter Yba.func7, Yba.ntmps7
  go_wp2
  go_region_held3 (fun w' => w'.cell? ⟨g, o, none⟩ = some (.slice a lb c) ∧ w'.cell? ⟨g, o + 1, none⟩ = some (.pointer none)) (simp [*])
    (first
      | (go_at_call 9; refine (ksize_short g o lb a c _ ?_ ?_).mono ?_; (simp [*]); (simp [*]); rintro e w' ⟨rfl, rfl⟩)
      | (go_at_call 8; refine (uv_any _ _).mono ?_; rintro e w' ⟨v, rfl, hv, HV, hb⟩; have k0 : w'.cell? ⟨g, o, none⟩ = some (.slice a lb c) := cell_later hb (by simp [*]); have k1 : w'.cell? ⟨g, o + 1, none⟩ = some (.pointer none) := cell_later hb (by simp [*])))
  go_wp2
  go_ret
  exact ⟨_, rfl, K_short lb v HV.out, (Below.refl _ _).drew.trans hb⟩

set_option maxRecDepth 100000 in
set_option maxHeartbeats 1000000 in
theorem enc_long (g o lb : Nat) (a : Option Addr) (c ob : Nat) (sz : Int) (w : World) (h0 : w.cell? ⟨g, o, none⟩ = some (.slice a lb c)) (h1 : w.cell? ⟨g, o + 1, none⟩ = some (.pointer (some ⟨ob, 0, none⟩)))
    (h2 : w.cell? ⟨ob, 0, none⟩ = some (.int .i64 sz)) :
    Calls Yba.prog 7 #[.pointer (some ⟨g, o, none⟩)] w fun e w' => ∃ x : Int, e = .returned (.int .i64 x) ∧ Hid (x = wrap64 (K lb (some sz))) ∧ Below w.heap.size w w' := by
  go_enter Yba.func7, Yba.ntmps7
  go_wp2
  go_region_held3 (fun w' => w'.cell? ⟨g, o, none⟩ = some (.slice a lb c) ∧ w'.cell? ⟨g, o + 1, none⟩ = some (.pointer (some ⟨ob, 0, none⟩)) ∧ w'.cell? ⟨ob, 0, none⟩ = some (.int .i64 sz)) (simp [*])
    (first
      | (go_at_call 9; refine (ksize_long g o ob sz _ ?_ ?_).mono ?_; (simp [*]); (simp [*]); rintro e w' ⟨rfl, rfl⟩)
      | (go_at_call 8; refine (uv_any _ _).mono ?_; rintro e w' ⟨v, rfl, hv, HV, hb⟩; have k0 : w'.cell? ⟨g, o, none⟩ = some (.slice a lb c) := cell_later hb (by simp [*]); have k1 : w'.cell? ⟨g, o + 1, none⟩ = some (.pointer (some ⟨ob, 0, none⟩)) := cell_later hb (by simp [*]); have k2 : w'.cell? ⟨ob, 0, none⟩ = some (.int .i64 sz) := cell_later hb (by simp [*])))
  go_wp2
  go_ret
  refine ⟨_, rfl, ?_, (Below.refl _ _).drew.trans hb⟩
  exact K_long lb sz v HV.out

/-- A node's key lies at ⟨g, o⟩: lb bytes are held; 'sz': what its overflow says. -/
def KeyAt (w : World) (g o lb : Nat) (sz : Option Int) : Prop :=
  ∃ a c, w.cell? ⟨g, o, none⟩ = some (.slice a lb c) ∧ ((sz = none ∧ w.cell? ⟨g, o + 1, none⟩ = some (.pointer none)) ∨
    ∃ s ob, sz = some s ∧ w.cell? ⟨g, o + 1, none⟩ = some (.pointer (some ⟨ob, 0, none⟩)) ∧ w.cell? ⟨ob, 0, none⟩ = some (.int .i64 s))
theorem KeyAt.later {w w' : World} {g o lb : Nat} {sz : Option Int} (h : KeyAt w g o lb sz) (hb : Below w.heap.size w w') : KeyAt w' g o lb sz := by
  obtain ⟨a, c, h0, h1⟩ := h
  refine ⟨a, c, cell_later hb h0, ?_⟩
  rcases h1 with ⟨rfl, h1⟩ | ⟨s, ob, rfl, h1, h2⟩
  · exact .inl ⟨rfl, cell_later hb h1⟩
  · exact .inr ⟨s, ob, rfl, cell_later hb h1, cell_later hb h2⟩
theorem enc_any (g o lb : Nat) (sz : Option Int) (w : World) (h : KeyAt w g o lb sz) :
    Calls Yba.prog 7 #[.pointer (some ⟨g, o, none⟩)] w fun e w' => ∃ x : Int, e = .returned (.int .i64 x) ∧ Hid (x = wrap64 (K lb sz)) ∧ Below w.heap.size w w' := by
  obtain ⟨a, c, h0, h1⟩ := h
  rcases h1 with ⟨rfl, h1⟩ | ⟨s, ob, rfl, h1, h2⟩
  · exact enc_short g o lb a c w h0 h1
  · exact enc_long g o lb a c ob s w h0 h1 h2
end Go.Proofs.Ybulkdmzs
