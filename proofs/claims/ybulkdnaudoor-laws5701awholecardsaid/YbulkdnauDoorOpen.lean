/-
  OPENING: the slices that come in, and the table of texts. No walk.
-/
import Derived.Test.YbulkdnauDoorCmp
import Derived.ProofKit
import Derived.LaidMore
import Derived.OpenShut
import Derived.ChangeOld
import Derived.Lib.LaidTab
namespace Go.Proofs.YbulkdnauDoor
open Go.ChangeShapes Go.WideShapes Go.ChangeAt Go.RowKit

/-- A table of texts, as a row lists it. -/
def strData {H : Type} (ss : List (List UInt8)) : DataW H := .agg (ss.map fun b => .lit (.string b))
theorem cells_of_strs {H : Type} {enc : TypeId × Value → H} {P : Program} {w : World} {base : Nat} {sp : Nat → Bool} {held : Bool} {fuel : Nat} {t e : TypeId} {n : Nat} {cs : List Value} {ss : List (List UInt8)} {p : List MemPlace}
    (ht : P.underlying t = some (.array n e)) (he : P.underlying e = some .string) (hce : P.cellsOf e = 1) (hct : P.cellsOf t = n)
    (h : DataW.trod enc P w base sp held fuel t cs = some (strData ss, p)) : cs = ss.map fun b => Value.string ⟨b.toArray⟩ := by
  obtain ⟨xs, m, _, hx, hl, hxl, hf⟩ := DataW.trod_array ht h
  rw [hct] at hl
  have hxs : xs.map (·.1) = ss.map fun b => (DataW.lit (.string b) : DataW H) := by
    have := congrArg Prod.fst hx
    simp only [strData, DataW.agg.injEq] at this
    exact this.symm
  have hsl : ss.length = n := by
    have := congrArg List.length hxs
    simp at this
    omega
  apply List.ext_getElem?
  intro i
  by_cases hi : i < n
  · have g := hf i hi
    obtain ⟨b, hb⟩ : ∃ b, xs[i]? = some b := ⟨xs[i]'(by omega), List.getElem?_eq_getElem (by omega)⟩
    rw [hb] at g
    obtain ⟨s, hc, rfl, _⟩ := DataW.trod_string he g
    have h1 : cs[i]? = some (.string s) := by
      have := congrArg (·[0]?) hc
      simpa [hce, List.getElem?_take, List.getElem?_drop] using this
    have h2 : (xs.map (·.1))[i]? = some (DataW.lit (.string s.data.toList) : DataW H) := by simp [hb]
    rw [hxs] at h2
    simp only [List.getElem?_map, Option.map_eq_some_iff, DataW.lit.injEq, Lit.string.injEq] at h2
    obtain ⟨b', hb', rfl⟩ := h2
    simp [h1, hb']
  · rw [List.getElem?_eq_none (by omega), List.getElem?_eq_none (by simp; omega)]

/-- The indicators' texts, as bytes. -/
def texts : List (List UInt8) := [[], [], [], [], [], [], [], [], [], [45, 45, 45], [46, 46, 46], [45], [63], [58], [91], [93], [123], [125], [44]]
def cells19 : Array Value := (texts.map fun b => Value.string ⟨b.toArray⟩).toArray
theorem cells19_at (k : Nat) (hk : k < 19) : cells19[k]? = some (.string (ind k)) := by
  rcases (show k = 0 ∨ k = 1 ∨ k = 2 ∨ k = 3 ∨ k = 4 ∨ k = 5 ∨ k = 6 ∨ k = 7 ∨ k = 8 ∨ k = 9 ∨ k = 10 ∨ k = 11 ∨ k = 12 ∨ k = 13 ∨ k = 14 ∨ k = 15 ∨ k = 16 ∨ k = 17 ∨ k = 18 by omega) with
    rfl | rfl | rfl | rfl | rfl | rfl | rfl | rfl | rfl | rfl | rfl | rfl | rfl | rfl | rfl | rfl | rfl | rfl | rfl <;> rfl

theorem c3 : Ybad.prog.cellsOf 3 = 1 := by kernel_rfl
theorem c21 : Ybad.prog.cellsOf 21 = 1 := by kernel_rfl

/-- The entries. -/
theorem ent_of {H : Type} {enc : TypeId × Value → H} {W : World} {fuel : Nat} {a : Option Addr} {len cap : Nat} {x : DataW H × List MemPlace}
    (h : DataW.trod enc Ybad.prog W 0 (fun _ => true) true fuel 22 [.slice a len cap] = some x) : (∃ zs, IsEnt W a len cap zs) ∧ len ≤ cap ∧ (x.1 = .nil ∧ len = 0 ∨ ∃ es sp, x.1 = .slice es sp ∧ es.length = len) := by
  rcases Go.ChangeShapes.open_ints Ybad.underlying22 Ybad.underlying3 c3 h with ⟨hcs, hx⟩ | ⟨ad, l, c, zs, hcs, _, hl, hm, hmm, hx, hel, _⟩
  · simp only [List.cons.injEq, Value.slice.injEq, and_true] at hcs
    obtain ⟨rfl, rfl, rfl⟩ := hcs
    exact ⟨⟨fun _ => 0, .inl ⟨rfl, rfl, rfl⟩⟩, Nat.le_refl _, .inl ⟨by rw [hx], rfl⟩⟩
  · simp only [List.cons.injEq, Value.slice.injEq, and_true] at hcs
    obtain ⟨rfl, rfl, rfl⟩ := hcs
    have hmc : zs.length = cap := by simpa using hmm
    refine ⟨⟨fun j => zs.getD j 0, ?_⟩, hl, .inr ⟨_, _, by rw [hx], by simp [Go.ChangeShapes.lits, hmc]; omega⟩⟩
    rcases Nat.eq_zero_or_pos len with h0 | hpos
    · exact .inr (.inl ⟨ad, rfl, h0⟩)
    · obtain ⟨b, off, spot⟩ := ad
      have hspot : spot = none := by simpa [Addr.add] using World.cell?_spot (hel 0 (by omega))
      subst hspot
      exact .inr (.inr ⟨b, off, rfl, fun j hj => by rw [← add_none]; exact hel j (by omega)⟩)

/-- The prior tokens' numbers. -/
theorem pri_of {H : Type} {enc : TypeId × Value → H} {W : World} {fuel : Nat} {a : Option Addr} {len cap : Nat} {x : DataW H × List MemPlace}
    (h : DataW.trod enc Ybad.prog W 0 (fun _ => true) true fuel 23 [.slice a len cap] = some x) : (∃ (pb po : Nat) (ps : Nat → Int), (len = 0 ∨ a = some ⟨pb, po, none⟩) ∧ ∀ j, j < len → W.cell? ⟨pb, po + j, none⟩ = some (.int .i32 (ps j))) ∧ (x.1 = .nil ∧ len = 0 ∨ ∃ es sp, x.1 = .slice es sp ∧ es.length = len) := by
  rcases Go.ChangeShapes.open_ints Ybad.underlying23 Ybad.underlying21 c21 h with ⟨hcs, hx⟩ | ⟨ad, l, c, zs, hcs, _, hl, hm, hmm, hx, hel, _⟩
  · simp only [List.cons.injEq, Value.slice.injEq, and_true] at hcs
    obtain ⟨rfl, rfl, rfl⟩ := hcs
    exact ⟨⟨0, 0, fun _ => 0, .inl rfl, fun j hj => by omega⟩, .inl ⟨by rw [hx], rfl⟩⟩
  · simp only [List.cons.injEq, Value.slice.injEq, and_true] at hcs
    obtain ⟨rfl, rfl, rfl⟩ := hcs
    have hmc : zs.length = cap := by simpa using hmm
    refine ⟨?_, .inr ⟨_, _, by rw [hx], by simp [Go.ChangeShapes.lits, hmc]; omega⟩⟩
    rcases Nat.eq_zero_or_pos len with h0 | hpos
    · exact ⟨0, 0, fun _ => 0, .inl h0, fun j hj => by omega⟩
    · obtain ⟨b, off, spot⟩ := ad
      have hspot : spot = none := by simpa [Addr.add] using World.cell?_spot (hel 0 (by omega))
      subst hspot
      exact ⟨b, off, fun j => zs.getD j 0, .inr rfl, fun j hj => by rw [← add_none]; exact hel j (by omega)⟩

theorem var?_below {P : Program} {B g : Nat} {W W' : World} {n : String} {cs : Array Value} (h : Below B W W') (hg : P.globalNamed n = some g) (hgB : g < B) (hv : W.var? P n = some cs) : W'.var? P n = some cs := by
  unfold World.var? at hv ⊢
  rw [hg] at hv ⊢
  simp only [Option.bind_some] at hv ⊢
  rw [h.block g hgB]
  exact hv
end Go.Proofs.YbulkdnauDoor
