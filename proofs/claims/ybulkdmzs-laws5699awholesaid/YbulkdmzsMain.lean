/-
  THE ROW of btree.LawS5699AWhole.
-/
import Derived.Test.YbulkdmzsRows
import Derived.Test.YbulkdmzsLawA
import Derived.Test.YbulkdmzsLawB
import Derived.Test.YbulkdmzsLawC
import Derived.Test.YbulkdmzsLawD
import Derived.Test.YbulkdmzsLawE
import Derived.WalkKit
import Derived.ProofKit
import Derived.OpenShut
import Derived.ChangeOld
import Derived.Below
import Derived.SizedLaws
import Derived.Deep.Slices
namespace Go.Proofs.Ybulkdmzs
open Go.ChangeShapes Go.WideShapes Go.ChangeAt Go.RowKit
set_option linter.unusedVariables false

theorem own : ownKnob Yba.prog.godebug = none := by kernel_rfl
theorem laidOut : laidOutB Yba.prog = true := by kernel_rfl
theorem cells26 : Yba.prog.cellsOf 26 = 3 := by kernel_rfl
theorem cells24 : Yba.prog.cellsOf 24 = 1 := by kernel_rfl
theorem cells4 : Yba.prog.cellsOf 4 = 1 := by kernel_rfl
theorem cells3 : Yba.prog.cellsOf 3 = 1 := by kernel_rfl
theorem bytes26 : Yba.prog.bytesOf 26 = 40 := by kernel_rfl
theorem bytes24 : Yba.prog.bytesOf 24 = 24 := by kernel_rfl

/-- What the walk is told of the keys. -/
def IsKeys (w : World) (a : Option Addr) (L : Nat) : Prop :=
  L = 0 ∨ ∃ b off, a = some ⟨b, off, none⟩ ∧ ∃ (A : Nat → Option Addr) (lb C : Nat → Nat) (lg : Nat → Bool) (S : Nat → Int),
    (∀ j, j < L → w.cell? ⟨b, off + j * 3, none⟩ = some (.slice (A j) (lb j) (C j))) ∧ (∀ j, j < L → w.cell? ⟨b, off + j * 3 + 1, none⟩ = some (.bool (lg j))) ∧ (∀ j, j < L → w.cell? ⟨b, off + j * 3 + 2, none⟩ = some (.int .i64 (S j))) ∧
    ∀ j, j < L → lb j ≤ 9223372036854775807
/-- What the walk is told of the values. -/
def IsVals (w : World) (a : Option Addr) (M : Nat) : Prop :=
  M = 0 ∨ ∃ b off, a = some ⟨b, off, none⟩ ∧ ∃ (A : Nat → Option Addr) (lv C : Nat → Nat), (∀ j, j < M → w.cell? ⟨b, off + j, none⟩ = some (.slice (A j) (lv j) (C j))) ∧ ∀ j, j < M → lv j ≤ 9223372036854775807

/-- A slice of bytes, as a cell. -/
theorem bytes_of {H : Type} {enc : TypeId × Value → H} {W : World} {fuel : Nat} {v : Value} {x : DataW H × List MemPlace}
    (h : DataW.trod enc Yba.prog W 0 (fun _ => true) true fuel 24 [v] = some x) : ∃ a l c, v = .slice a l c ∧ l ≤ 9223372036854775807 := by
  rcases Deep.open_slice Yba.underlying24 h with ⟨hcs, _⟩ | ⟨ad, l, c, m, n, D, Pl, hcs, _, hl, hm, _⟩
  · simp only [List.cons.injEq, and_true] at hcs
    exact ⟨none, 0, 0, hcs, by omega⟩
  · simp only [List.cons.injEq, and_true] at hcs
    exact ⟨some ad, l, c, hcs, by unfold maxLen at hm; omega⟩

theorem key_of {H : Type} {enc : TypeId × Value → H} {W : World} {fuel : Nat} {cs : List Value} {x : DataW H × List MemPlace}
    (h : DataW.trod enc Yba.prog W 0 (fun _ => true) true fuel 26 cs = some x) : ∃ a l c b s, cs = [.slice a l c, .bool b, .int .i64 s] ∧ l ≤ 9223372036854775807 := by
  obtain ⟨xs, k, _, _, hlen, hxl, hf⟩ := DataW.trod_struct Yba.underlying26 h
  rw [cells26] at hlen
  match xs, hxl, cs, hlen with
  | [y0, y1, y2], _, [v0, v1, v2], _ =>
    have g0 := hf 0 _ rfl
    have g1 := hf 1 _ rfl
    have g2 := hf 2 _ rfl
    simp [cells24, cells4, cells3] at g0 g1 g2
    obtain ⟨a, l, c, rfl, hl⟩ := bytes_of (show DataW.trod enc Yba.prog W 0 (fun _ => true) true k 24 [v0] = some y0 from g0)
    obtain ⟨b, e1, _⟩ := DataW.trod_bool Yba.underlying4 (show DataW.trod enc Yba.prog W 0 (fun _ => true) true k 4 [v1] = some y1 from g1)
    obtain ⟨s, e2, _, _⟩ := DataW.trod_int Yba.underlying3 (show DataW.trod enc Yba.prog W 0 (fun _ => true) true k 3 [v2] = some y2 from g2)
    simp only [List.cons.injEq, and_true] at e1 e2
    exact ⟨a, l, c, b, s, by rw [e1, e2], hl⟩

theorem keys_of {H : Type} {enc : TypeId × Value → H} {W : World} {fuel : Nat} {a : Option Addr} {len cap : Nat} {x : DataW H × List MemPlace}
    (h : DataW.trod enc Yba.prog W 0 (fun _ => true) true fuel 22 [.slice a len cap] = some x) : IsKeys W a len ∧ (x.1 = .nil ∧ len = 0 ∨ ∃ es sp, x.1 = .slice es sp ∧ es.length = len) := by
  rcases Deep.open_slice Yba.underlying22 h with ⟨hcs, hx⟩ | ⟨ad, l, c, m, n, D, Pl, hcs, _, hl, hm, hmm, hx, hel⟩
  · simp only [List.cons.injEq, Value.slice.injEq, and_true] at hcs
    obtain ⟨rfl, rfl, rfl⟩ := hcs
    exact ⟨.inl rfl, .inl ⟨by rw [hx], rfl⟩⟩
  · simp only [List.cons.injEq, Value.slice.injEq, and_true] at hcs
    obtain ⟨rfl, rfl, rfl⟩ := hcs
    refine ⟨?_, .inr ⟨_, _, by rw [hx], by simp⟩⟩
    rcases Nat.eq_zero_or_pos len with h0 | hpos
    · exact .inl h0
    · right
      have hmc : m = cap := by simpa using hmm
      subst hmc
      rw [cells26] at hel
      have each : ∀ i, i < len → ∃ q : Option Addr × Nat × Nat × Bool × Int, q.2.1 ≤ 9223372036854775807 ∧ W.cell? ((ad.add (i * 3)).add 0) = some (.slice q.1 q.2.1 q.2.2.1) ∧ W.cell? ((ad.add (i * 3)).add 1) = some (.bool q.2.2.2.1) ∧ W.cell? ((ad.add (i * 3)).add 2) = some (.int .i64 q.2.2.2.2) := by
        intro i hi
        obtain ⟨cs', h1, h2⟩ := hel i (by omega)
        obtain ⟨_, _, hc⟩ := World.cells?_some h1
        obtain ⟨a', l', c', b', s', rfl, hl'⟩ := key_of h2
        exact ⟨(a', l', c', b', s'), hl', hc 0 (by omega), hc 1 (by omega), hc 2 (by omega)⟩
      obtain ⟨b, off, spot⟩ := ad
      have hspot : spot = none := by
        obtain ⟨q, _, h0, _⟩ := each 0 hpos
        have := World.cell?_spot h0
        simpa [Addr.add] using this
      subst hspot
      refine ⟨b, off, rfl, ?_⟩
      obtain ⟨f, hf⟩ := Deep.choose_lt each
      have ea : ∀ i j, ((⟨b, off, none⟩ : Addr).add (i * 3)).add j = ⟨b, off + i * 3 + j, none⟩ := fun i j => by rw [Go.WideShapes.add_plain, Go.WideShapes.add_plain]
      exact ⟨fun i => (f i).1, fun i => (f i).2.1, fun i => (f i).2.2.1, fun i => (f i).2.2.2.1, fun i => (f i).2.2.2.2, fun j hj => by rw [← (hf j hj).2.1, ea]; rfl, fun j hj => by rw [← (hf j hj).2.2.1, ea], fun j hj => by rw [← (hf j hj).2.2.2, ea], fun j hj => (hf j hj).1⟩

theorem vals_of {H : Type} {enc : TypeId × Value → H} {W : World} {fuel : Nat} {a : Option Addr} {len cap : Nat} {x : DataW H × List MemPlace}
    (h : DataW.trod enc Yba.prog W 0 (fun _ => true) true fuel 23 [.slice a len cap] = some x) : IsVals W a len ∧ (x.1 = .nil ∧ len = 0 ∨ ∃ es sp, x.1 = .slice es sp ∧ es.length = len) := by
  rcases Deep.open_slice1 Yba.underlying23 cells24 h with ⟨hcs, hx⟩ | ⟨ad, l, c, m, n, V, D, Pl, hcs, _, hl, hm, hmm, hx, hel⟩
  · simp only [List.cons.injEq, Value.slice.injEq, and_true] at hcs
    obtain ⟨rfl, rfl, rfl⟩ := hcs
    exact ⟨.inl rfl, .inl ⟨by rw [hx], rfl⟩⟩
  · simp only [List.cons.injEq, Value.slice.injEq, and_true] at hcs
    obtain ⟨rfl, rfl, rfl⟩ := hcs
    refine ⟨?_, .inr ⟨_, _, by rw [hx], by simp⟩⟩
    rcases Nat.eq_zero_or_pos len with h0 | hpos
    · exact .inl h0
    · right
      have hmc : m = cap := by simpa using hmm
      subst hmc
      have each : ∀ i, i < len → ∃ q : Option Addr × Nat × Nat, q.2.1 ≤ 9223372036854775807 ∧ W.cell? (ad.add i) = some (.slice q.1 q.2.1 q.2.2) := by
        intro i hi
        obtain ⟨h1, h2⟩ := hel i (by omega)
        obtain ⟨a', l', c', e, hl'⟩ := bytes_of h2
        exact ⟨(a', l', c'), hl', by rw [h1, e]⟩
      obtain ⟨b, off, spot⟩ := ad
      have hspot : spot = none := by
        obtain ⟨q, _, h0⟩ := each 0 hpos
        have := World.cell?_spot h0
        simpa [Addr.add] using this
      subst hspot
      refine ⟨b, off, rfl, ?_⟩
      obtain ⟨f, hf⟩ := Deep.choose_lt each
      exact ⟨fun i => (f i).1, fun i => (f i).2.1, fun i => (f i).2.2, fun j hj => by rw [← (hf j hj).2, Go.WideShapes.add_plain], fun j hj => (hf j hj).1⟩

theorem walk (leaf : Bool) (ka : Option Addr) (L kc : Nat) (va : Option Addr) (M vc : Nat) (w : World) (hk : IsKeys w ka L) (hv : IsVals w va M) (hL : L * 40 ≤ 140737488351232) (hM : M * 24 ≤ 140737488351232) :
    Calls Yba.prog 3 #[.bool leaf, .slice ka L kc, .slice va M vc] w fun e w' => e = .returned (.bool true) ∧ Below w.heap.size w w' := by
  rcases hk with rfl | ⟨kb, ko, rfl, A, lb, C, lg, S, k0, k1, k2, hlb⟩
  · rcases hv with rfl | ⟨vb, vo, rfl, VA, VL, VC, v0, hvl⟩
    · cases leaf with
      | false => exact law_00_branch ka kc vc va w
      | true => exact law_00_leaf ka kc vc va w
    · cases leaf with
      | false => exact law_0v_branch ka kc vb vo M vc VA VL VC w hM v0 hvl
      | true => exact law_0v_leaf ka kc vb vo M vc VA VL VC w hM v0 hvl
  · rcases hv with rfl | ⟨vb, vo, rfl, VA, VL, VC, v0, hvl⟩
    · cases leaf with
      | false => exact law_k0_branch kb ko L kc vc A lb C lg S va w hL k0 k1 k2 hlb
      | true => exact law_k0_leaf kb ko L kc vc A lb C lg S va w hL k0 k1 k2 hlb
    · rcases Nat.eq_zero_or_pos M with rfl | hM0
      · cases leaf with
        | false => exact law_k0_branch kb ko L kc vc A lb C lg S _ w hL k0 k1 k2 hlb
        | true => exact law_k0_leaf kb ko L kc vc A lb C lg S _ w hL k0 k1 k2 hlb
      · cases leaf with
        | false => exact law_kv_branch kb ko L kc vb vo M vc A lb C lg S VA VL VC w hL hM hM0 k0 k1 k2 hlb v0 hvl
        | true => exact law_kv_leaf kb ko L kc vb vo M vc A lb C lg S VA VL VC w hL hM hM0 k0 k1 k2 hlb v0 hvl

set_option maxRecDepth 100000 in
theorem lifted (os : Os) (started : os.Started) (H : Type) (enc : TypeId × Value → H) :
    ReturnsInHanded {} Yba.checked os 3 .any (Rows.lawS5699AWholeSpec.pre6 enc Yba.prog Yba.f3 Rows.lawS5699AWholeRow.domain false) (Rows.lawS5699AWholeSpec.post enc Yba.prog Yba.f3 false true false false) := by
  refine returnsInHanded_of_change_sized (C := Yba.checked) own started (by kernel_rfl) Yba.func3
    (ChangeSpec.witness6 (enc := enc) (C := Yba.checked) false ⟨#[], #[.bool false, .slice none 0 0, .slice none 0 0], []⟩ 8 (by kernel_rfl) (by kernel_rfl) (by kernel_rfl) (by kernel_rfl)) ?_
  intro W base args ds gs before hval0 hW _ hsz0 _
  have hsz : (DataW.weightsEach Yba.prog (Yba.f3.params.toList ++ Rows.lawS5699AWholeSpec.plain.varTypes Yba.prog) (ds ++ gs)).all (· ≤ reachBytes) = true := hsz0
  clear hsz0
  have hval : ∀ (j : Nat) t v, Yba.f3.params[j]? = some t → args[j]? = some v → Value.okWide Yba.prog W .any base t v := hval0
  have hW' := hW
  obtain ⟨p, q, hA0, hV, rfl, hfz, hnd⟩ := hW
  have hA : DataW.TrodAll enc Yba.prog W 0 (fun _ => true) true Yba.f3.params.toList args.toList ds p := hA0
  rw [Yba.params3] at hA hval hsz
  obtain ⟨v0, v1, v2, d0, d1, d2, p0, p1, p2, rfl, rfl, rfl, h0, h1, h2⟩ := trodAll_three hA
  obtain ⟨rfl, rfl⟩ := trodVars_none hV
  obtain ⟨leaf, rfl, rfl, rfl⟩ := open_bool Yba.underlying4 (hval 0 4 v0 rfl rfl) h0
  obtain ⟨ka, L, kc, rfl⟩ := okWide_slice Yba.underlying22 (hval 1 22 v1 rfl rfl)
  obtain ⟨va, M, vc, rfl⟩ := okWide_slice Yba.underlying23 (hval 2 23 v2 rfl rfl)
  have lt1 : ∀ x ∈ p1, x.block < W.heap.size := by obtain ⟨m, hm⟩ := h1; exact DataW.trod_lt m _ _ _ hm
  have lt2 : ∀ x ∈ p2, x.block < W.heap.size := by obtain ⟨m, hm⟩ := h2; exact DataW.trod_lt m _ _ _ hm
  obtain ⟨hk, hd1⟩ : IsKeys W ka L ∧ (d1 = .nil ∧ L = 0 ∨ ∃ es sp, d1 = .slice es sp ∧ es.length = L) := by
    obtain ⟨fuel, hf⟩ := h1
    exact keys_of (by simpa [Value.cells] using hf)
  obtain ⟨hv, hd2⟩ : IsVals W va M ∧ (d2 = .nil ∧ M = 0 ∨ ∃ es sp, d2 = .slice es sp ∧ es.length = M) := by
    obtain ⟨fuel, hf⟩ := h2
    exact vals_of (by simpa [Value.cells] using hf)
  have hL : L * 40 ≤ 140737488351232 := by
    rcases hd1 with ⟨_, rfl⟩ | ⟨es, sp, rfl, hes⟩
    · omega
    · have := sized_slice hsz (j := 1) (t := 22) (e := 26) rfl rfl Yba.underlying22
      rw [bytes26] at this
      simp only [reachBytes] at this
      omega
  have hM : M * 24 ≤ 140737488351232 := by
    rcases hd2 with ⟨_, rfl⟩ | ⟨es, sp, rfl, hes⟩
    · omega
    · have := sized_slice hsz (j := 2) (t := 23) (e := 24) rfl rfl Yba.underlying23
      rw [bytes24] at this
      simp only [reachBytes] at this
      omega
  clear hA0 hval0
  refine (walk leaf ka L kc va M vc W hk hv hL hM).mono fun e W' ⟨he, bel⟩ => ?_
  subst he
  exact ⟨_, rfl, _, _, _, [], _, [], hW', trodAll_mk1 (shut_bool Yba.underlying4 _), (trodAll_cons_mk (shut_bool Yba.underlying4 _) (trodAll_cons_mk (Below.trod laidOut (by kernel_rfl) (of_decide_eq_true (by kernel_rfl)) h1 bel lt1) (trodAll_cons_mk (Below.trod laidOut (by kernel_rfl) (of_decide_eq_true (by kernel_rfl)) h2 bel lt2) trodAll_mk0))), rfl, bel.frame _, fun h => by cases h⟩

theorem over : Rows.lawS5699AWholeRow.holds Yba.pinned (OpenSpec.ofChange Rows.lawS5699AWholeSpec) :=
  OpenClaim.holds_of_wide 3 Yba.f3 rfl rfl rfl rfl rfl rfl rfl ⟨rfl, rfl, rfl, rfl, rfl⟩ rfl rfl rfl rfl rfl (by kernel_rfl) Yba.func3 (by kernel_rfl)
    (of_decide_eq_true (by kernel_rfl)) (by unfold Func.isWrapper; first | (rw [if_pos (by decide +kernel)]; kernel_rfl) | (rw [if_neg (by decide +kernel)]; exact ⟨rfl, rfl⟩))
    (fun os started H enc _ => lifted os started H enc)

/-- ████ THE STATEMENT ████ -/
theorem lawS5699AWhole_proved : Rows.LawS5699AWholeSaid := over
#print axioms lawS5699AWhole_proved
end Go.Proofs.Ybulkdmzs
