/-
  THE WALKS of (*node).entrySize, (*node).size.
-/
import Derived.Test.YbulkdmzsWalkB
namespace Go.Proofs.Ybulkdmzs
open Go.RowKit

theorem E_leaf (lb : Nat) (sz : Option Int) (lv v : Nat) (x : Int) (hlv : lv ≤ 9223372036854775807) (h : x = wrap64 (K lb sz)) (hv : v = vl (U (lv : Int))) :
    IntKind.i64.wrap (IntKind.i64.wrap (x + (v : Int)) + (lv : Int)) = wrap64 (E true lb sz lv) := by
  rw [IntWalk.i64_left, IntWalk.i64_left, h, w_add, Int.add_assoc, w_add, hv, U_nat lv hlv]; unfold E; rw [if_pos rfl]
theorem E_branch (lb : Nat) (sz : Option Int) (lv : Nat) (x : Int) (h : x = wrap64 (K lb sz)) : wrap64 (x + 7) = wrap64 (E false lb sz lv) := by
  rw [h, w_add]; unfold E; simp

set_option maxRecDepth 100000 in
set_option maxHeartbeats 1000000 in
theorem entry_branch (gN gK L k lb : Nat) (sz : Option Int) (w : World) (hk : k < L) (h0 : w.cell? ⟨gN, 0, none⟩ = some (.bool false)) (h1 : w.cell? ⟨gN, 1, none⟩ = some (.slice (some ⟨gK, 0, none⟩) L L))
    (hK : KeyAt w gK (k * 2) lb sz) (lv : Nat) :
    Calls Yba.prog 6 #[.pointer (some ⟨gN, 0, none⟩), .int .i64 (k : Int)] w fun e w' => ∃ x : Int, e = .returned (.int .i64 x) ∧ Hid (x = wrap64 (E false lb sz lv)) ∧ Below w.heap.size w w' := by
  go_enter Yba.func6, Yba.ntmps6
  go_wp2_with (go_at_call 7; refine (enc_any gK (k * 2) lb sz _ hK).mono ?_; rintro e w' ⟨x, rfl, HX, hb⟩; have k0 := cell_later hb h0)
  go_ret
  exact ⟨_, rfl, E_branch lb sz lv x HX.out, hb⟩

set_option maxRecDepth 100000 in
set_option maxHeartbeats 1000000 in
theorem entry_leaf (gN gK gV L k lb lv : Nat) (sz : Option Int) (va : Option Addr) (vc : Nat) (w : World) (hk : k < L) (hlv : lv ≤ 9223372036854775807) (h0 : w.cell? ⟨gN, 0, none⟩ = some (.bool true)) (h1 : w.cell? ⟨gN, 1, none⟩ = some (.slice (some ⟨gK, 0, none⟩) L L))
    (h2 : w.cell? ⟨gN, 2, none⟩ = some (.slice (some ⟨gV, 0, none⟩) L L)) (hv : w.cell? ⟨gV, k, none⟩ = some (.slice va lv vc)) (hK : KeyAt w gK (k * 2) lb sz) :
    Calls Yba.prog 6 #[.pointer (some ⟨gN, 0, none⟩), .int .i64 (k : Int)] w fun e w' => ∃ x : Int, e = .returned (.int .i64 x) ∧ Hid (x = wrap64 (E true lb sz lv)) ∧ Below w.heap.size w w' := by
  have hk0 : (0 : Int) ≤ (k : Int) := by omega
  have hk1 : (k : Int) < (L : Int) := by omega
  go_enter Yba.func6, Yba.ntmps6
  go_wp2_with (go_at_call 7; refine (enc_any gK (k * 2) lb sz _ hK).mono ?_; rintro e w1 ⟨x, rfl, HX, hb⟩; have k0 := cell_later hb h0; have k2 := cell_later hb h2; have kv := cell_later hb hv)
  clear h0 h1 h2 hv hK
  go_region_held3 (fun w' => w'.cell? ⟨gN, 2, none⟩ = some (.slice (some ⟨gV, 0, none⟩) L L) ∧ w'.cell? ⟨gV, k, none⟩ = some (.slice va lv vc)) (simp [*])
    (first
      | (go_at_call 8; refine (uv_any _ _).mono ?_; rintro e w' ⟨v, rfl, hv, HV, hb'⟩; have j0 : w'.cell? ⟨gN, 2, none⟩ = some (.slice (some ⟨gV, 0, none⟩) L L) := cell_later hb' (by simp [*]); have j1 : w'.cell? ⟨gV, k, none⟩ = some (.slice va lv vc) := cell_later hb' (by simp [*])))
  go_wp2
  go_ret
  exact ⟨_, rfl, E_leaf lb sz lv v x hlv HX.out HV.out, hb.trans (((Below.refl _ _).drew.trans hb').mono hb.size)⟩

/-- The node at gN holds L entries: of entry k the key holds lb k bytes (its overflow says sz k), the value lv k. -/
def Ents (w : World) (gN : Nat) (leaf : Bool) (L : Nat) (lb : Nat → Nat) (sz : Nat → Option Int) (lv : Nat → Nat) : Prop :=
  ∃ gK, w.cell? ⟨gN, 0, none⟩ = some (.bool leaf) ∧ w.cell? ⟨gN, 1, none⟩ = some (.slice (some ⟨gK, 0, none⟩) L L) ∧ (∀ k, k < L → KeyAt w gK (k * 2) (lb k) (sz k)) ∧
    (leaf = true → ∃ gV, w.cell? ⟨gN, 2, none⟩ = some (.slice (some ⟨gV, 0, none⟩) L L) ∧ ∀ k, k < L → lv k ≤ 9223372036854775807 ∧ ∃ va vc, w.cell? ⟨gV, k, none⟩ = some (.slice va (lv k) vc))
theorem Ents.later {w w' : World} {gN : Nat} {leaf : Bool} {L : Nat} {lb : Nat → Nat} {sz : Nat → Option Int} {lv : Nat → Nat} (h : Ents w gN leaf L lb sz lv) (hb : Below w.heap.size w w') : Ents w' gN leaf L lb sz lv := by
  obtain ⟨gK, h0, h1, hK, hV⟩ := h
  refine ⟨gK, cell_later hb h0, cell_later hb h1, fun k hk => (hK k hk).later hb, fun hl => ?_⟩
  obtain ⟨gV, h2, hv⟩ := hV hl
  exact ⟨gV, cell_later hb h2, fun k hk => ⟨(hv k hk).1, by obtain ⟨va, vc, h⟩ := (hv k hk).2; exact ⟨va, vc, cell_later hb h⟩⟩⟩
theorem entry_any (gN : Nat) (leaf : Bool) (L : Nat) (lb : Nat → Nat) (sz : Nat → Option Int) (lv : Nat → Nat) (k : Nat) (w : World) (hk : k < L) (h : Ents w gN leaf L lb sz lv) :
    Calls Yba.prog 6 #[.pointer (some ⟨gN, 0, none⟩), .int .i64 (k : Int)] w fun e w' => ∃ x : Int, e = .returned (.int .i64 x) ∧ Hid (x = wrap64 (E leaf (lb k) (sz k) (lv k))) ∧ Below w.heap.size w w' := by
  obtain ⟨gK, h0, h1, hK, hV⟩ := h
  cases leaf with
  | false => exact entry_branch gN gK L k (lb k) (sz k) w hk h0 h1 (hK k hk) (lv k)
  | true =>
    obtain ⟨gV, h2, hv⟩ := hV rfl
    obtain ⟨hlv, va, vc, hc⟩ := hv k hk
    exact entry_leaf gN gK gV L k (lb k) (lv k) (sz k) va vc w hk hlv h0 h1 h2 hc (hK k hk)

def base (leaf : Bool) : Int := if leaf then 3 else 10
theorem base_false (e : Nat → Int) : (10 : Int) = wrap64 (base false + sm e 0) := by
  rw [show base false + sm e 0 = 10 from rfl, w_in 10 (by omega)]
theorem base_true (e : Nat → Int) : (3 : Int) = wrap64 (base true + sm e 0) := by
  rw [show base true + sm e 0 = 3 from rfl, w_in 3 (by omega)]
theorem sum_step (b : Int) (e : Nat → Int) (k : Nat) (x y : Int) (hx : x = wrap64 (b + sm e k)) (hy : y = wrap64 (e k)) : wrap64 (x + y) = wrap64 (b + sm e (k + 1)) := by
  rw [hx, hy, w_add2, sm, Int.add_assoc]

set_option maxRecDepth 100000 in
set_option maxHeartbeats 1000000 in
theorem size_any (gN : Nat) (leaf : Bool) (L : Nat) (lb : Nat → Nat) (sz : Nat → Option Int) (lv : Nat → Nat) (w : World) (hL : L ≤ 4611686018427387903) (h : Ents w gN leaf L lb sz lv) :
    Calls Yba.prog 5 #[.pointer (some ⟨gN, 0, none⟩)] w fun e w' => ∃ x : Int, e = .returned (.int .i64 x) ∧ Hid (x = wrap64 (base leaf + sm (fun k => E leaf (lb k) (sz k) (lv k)) L)) ∧ Below w.heap.size w w' := by
  have h' := h
  obtain ⟨gK, h0, h1, _, _⟩ := h'
  obtain ⟨e, he⟩ : ∃ e : Nat → Int, e = fun k => E leaf (lb k) (sz k) (lv k) := ⟨_, rfl⟩
  have HE : Hid (e = fun k => E leaf (lb k) (sz k) (lv k)) := he
  rw [← he]
  have HH : Hid (Ents w gN leaf L lb sz lv) := h
  clear h he
  cases leaf with
  | false =>
    go_enter Yba.func5, Yba.ntmps5
    go_wp2
    clear h0 h1
    go_loopw [3, 17] (fun s i wr => ∃ k : Nat, ∃ x : Int, k ≤ L ∧ i = .int .i64 (k : Int) ∧ s = .int .i64 x ∧ Hid (x = wrap64 (base false + sm e k)) ∧ Below w.heap.size w wr) (fun _ i _ => L - (intOf i).toNat)
    case atStart => exact ⟨0, 10, Nat.zero_le _, rfl, rfl, base_false e, Below.refl _ _⟩
    case round =>
      obtain ⟨k, x, hk, rfl, rfl, HX, hb⟩ := hrel
      by_cases hlt : k < L
      · go_wp2_with (go_at_call 6; refine (entry_any gN false L lb sz lv k _ hlt (HH.out.later hb)).mono ?_; rintro e w1 ⟨y, rfl, HY, hb1⟩)
        go_roundw
        case rel => exact ⟨k + 1, _, by omega, by go_num, rfl, sum_step _ e k x y HX.out (by rw [HE.out]; exact HY.out), hb.trans (hb1.mono hb.size)⟩
        case measure => simp [intOf]; omega
      · obtain rfl : k = L := by omega
        go_wp2
        go_ret
        exact ⟨x, rfl, HX, hb⟩
  | true =>
    go_enter Yba.func5, Yba.ntmps5
    go_wp2
    clear h0 h1
    go_loopw [3, 17] (fun s i wr => ∃ k : Nat, ∃ x : Int, k ≤ L ∧ i = .int .i64 (k : Int) ∧ s = .int .i64 x ∧ Hid (x = wrap64 (base true + sm e k)) ∧ Below w.heap.size w wr) (fun _ i _ => L - (intOf i).toNat)
    case atStart => exact ⟨0, 3, Nat.zero_le _, rfl, rfl, base_true e, Below.refl _ _⟩
    case round =>
      obtain ⟨k, x, hk, rfl, rfl, HX, hb⟩ := hrel
      by_cases hlt : k < L
      · go_wp2_with (go_at_call 6; refine (entry_any gN true L lb sz lv k _ hlt (HH.out.later hb)).mono ?_; rintro e w1 ⟨y, rfl, HY, hb1⟩)
        go_roundw
        case rel => exact ⟨k + 1, _, by omega, by go_num, rfl, sum_step _ e k x y HX.out (by rw [HE.out]; exact HY.out), hb.trans (hb1.mono hb.size)⟩
        case measure => simp [intOf]; omega
      · obtain rfl : k = L := by omega
        go_wp2
        go_ret
        exact ⟨x, rfl, HX, hb⟩
end Go.Proofs.Ybulkdmzs
