/-
  THE ROW of punycode.LawS5697BCounts.
-/
import Derived.Test.YbulkdmyqRows
import Derived.Test.YbulkdmyqCounts
import Derived.WalkKit
import Derived.ProofKit
import Derived.OpenShut
import Derived.ChangeOld
import Derived.Below
import Derived.Deep.SlicePairs
namespace Go.Proofs.Ybulkdmyq.lawS5697BCounts
open Go.ChangeShapes Go.WideShapes Go.ChangeAt Go.RowKit
set_option linter.unusedVariables false

theorem own : ownKnob Yba.prog.godebug = none := by kernel_rfl
theorem laidOut : laidOutB Yba.prog = true := by kernel_rfl
theorem cells30 : Yba.prog.cellsOf 30 = 2 := by kernel_rfl

/-- What the walk is told of the steps. -/
def IsSteps (w : World) (a : Option Addr) (len : Nat) : Prop :=
  len ≤ 9223372036854775807 ∧ (len = 0 ∨ ∃ b off, a = some ⟨b, off, none⟩ ∧ ∃ (P : Nat → Nat) (V : Nat → Int), (∀ i, i < len → P i < 65536) ∧
    (∀ i, i < len → w.cell? ⟨b, off + i * 2, none⟩ = some (.int .u16 (P i : Int))) ∧ ∀ i, i < len → w.cell? ⟨b, off + i * 2 + 1, none⟩ = some (.int .i64 (V i)))

theorem steps_of {H : Type} {enc : TypeId × Value → H} {W : World} {fuel : Nat} {a : Option Addr} {len cap : Nat} {x : DataW H × List MemPlace}
    (h : DataW.trod enc Yba.prog W 0 (fun _ => true) true fuel 27 [.slice a len cap] = some x) : IsSteps W a len := by
  rcases Deep.open_slice_pairs Yba.underlying27 Yba.underlying30 cells30 rfl rfl (by kernel_rfl) (by kernel_rfl) h with ⟨hcs, _⟩ | ⟨ad, l, c, m, n, V0, V1, D0, D1, P0, P1, hcs, _, hl, hm, hmm, _, hx⟩
  · simp only [List.cons.injEq, Value.slice.injEq, and_true] at hcs
    obtain ⟨rfl, rfl, rfl⟩ := hcs
    exact ⟨by omega, .inl rfl⟩
  · simp only [List.cons.injEq, Value.slice.injEq, and_true] at hcs
    obtain ⟨rfl, rfl, rfl⟩ := hcs
    refine ⟨by unfold maxLen at hm; omega, ?_⟩
    rcases Nat.eq_zero_or_pos len with h0 | hpos
    · exact .inl h0
    · right
      have hmc : m = cap := by simpa using hmm
      subst hmc
      obtain ⟨b, off, spot⟩ := ad
      have hspot : spot = none := by
        have := World.cell?_spot (hx 0 (by omega)).1
        simpa [Addr.add] using this
      subst hspot
      refine ⟨b, off, rfl, ?_⟩
      obtain ⟨f, hf⟩ := Deep.choose_lt (α := Nat × Int) (n := len) (p := fun i x => x.1 < 65536 ∧ W.cell? ⟨b, off + i * 2, none⟩ = some (.int .u16 (x.1 : Int)) ∧ W.cell? ⟨b, off + i * 2 + 1, none⟩ = some (.int .i64 x.2)) (fun i hi => by
        obtain ⟨g0, g1, t0, t1⟩ := hx i (by omega)
        obtain ⟨p, e0, _, wp⟩ := DataW.trod_int Yba.underlying26 t0
        obtain ⟨v, e1, _, wv⟩ := DataW.trod_int Yba.underlying3 t1
        simp only [List.cons.injEq, and_true] at e0 e1
        rw [Go.WideShapes.add_plain] at g0 g1
        rw [e0] at g0
        rw [e1] at g1
        simp [Lit.wf, IntKind.min, IntKind.max, IntKind.signed, IntKind.bits] at wp
        refine ⟨(p.toNat, v), ?_, ?_, ?_⟩
        · show p.toNat < 65536; omega
        · rw [g0, show ((p.toNat : Nat) : Int) = p by omega]
        · rw [Nat.add_assoc]; exact g1)
      exact ⟨fun i => (f i).1, fun i => (f i).2, fun i hi => (hf i hi).1, fun i hi => (hf i hi).2.1, fun i hi => (hf i hi).2.2⟩

theorem walk (s : Int) (a : Option Addr) (len cap : Nat) (w : World) (ws : (Lit.int .u16 s).wf = true) (h : IsSteps w a len) :
    Calls Yba.prog 4 #[.int .u16 s, .slice a len cap] w fun e w' => e = .returned (.bool true) ∧ Below w.heap.size w w' := by
  obtain ⟨hm, hst⟩ := h
  by_cases hlong : 65536 < len
  · exact counts_long a len cap s w hlong hm
  obtain ⟨sn, hsn, rfl⟩ : ∃ sn : Nat, sn < 65536 ∧ s = (sn : Int) := by
    simp [Lit.wf, IntKind.min, IntKind.max, IntKind.signed, IntKind.bits] at ws
    exact ⟨s.toNat, by omega, by omega⟩
  rcases Nat.eq_zero_or_pos (sn % 2048) with h0 | hpos
  · exact counts_zero a len cap (sn % 2048) sn w hsn rfl (by omega) (by omega)
  rcases hst with rfl | ⟨b, off, rfl, P, V, hP, hc0, hc1⟩
  · exact counts_none a cap (sn % 2048) sn w hsn rfl hpos
  · exact counts_row b off len cap (sn % 2048) sn P V w hsn rfl hpos (by omega) hP hc0 hc1

set_option maxRecDepth 100000 in
theorem lifted (os : Os) (started : os.Started) (H : Type) (enc : TypeId × Value → H) :
    ReturnsInHanded {} Yba.checked os 4 .any (Rows.lawS5697BCountsSpec.pre6 enc Yba.prog Yba.f4 Rows.lawS5697BCountsRow.domain false) (Rows.lawS5697BCountsSpec.post enc Yba.prog Yba.f4 false true false false) := by
  refine returnsInHanded_of_change (C := Yba.checked) own started (by kernel_rfl) Yba.func4
    (ChangeSpec.witness6 (enc := enc) (C := Yba.checked) false ⟨#[], #[.int .u16 0, .slice none 0 0], []⟩ 8 (by kernel_rfl) (by kernel_rfl) (by kernel_rfl) (by kernel_rfl)) ?_
  intro W base args ds gs before hval0 hW hcnd _
  have hval : ∀ (j : Nat) t v, Yba.f4.params[j]? = some t → args[j]? = some v → Value.okWide Yba.prog W .any base t v := hval0
  have hW' := hW
  obtain ⟨p, q, hA0, hV, rfl, hfz, hnd⟩ := hW
  have hA : DataW.TrodAll enc Yba.prog W 0 (fun _ => true) true Yba.f4.params.toList args.toList ds p := hA0
  rw [Yba.params4] at hA hval
  obtain ⟨v0, vs0, d0, ds0, p0, q0, hargs, rfl, rfl, h0, r0⟩ := trodAll_cons hA
  obtain ⟨v1, vs1, d1, ds1, p1, q1, rfl, rfl, rfl, h1, r1⟩ := trodAll_cons r0
  obtain ⟨rfl, rfl, rfl⟩ := trodAll_nil r1
  obtain rfl : args = #[v0, v1] := by cases args; simp_all
  obtain ⟨rfl, rfl⟩ := trodVars_none hV
  obtain ⟨s, rfl, rfl, rfl, ws⟩ := open_int Yba.underlying26 (hval 0 26 v0 rfl rfl) h0
  obtain ⟨a1, len1, cap1, rfl⟩ := okWide_slice Yba.underlying27 (hval 1 27 v1 rfl rfl)
  have k1 := h1
  have lt1 : ∀ x ∈ p1, x.block < W.heap.size := by obtain ⟨m, hm⟩ := k1; exact DataW.trod_lt m _ _ _ hm
  have hst : IsSteps W a1 len1 := by
    obtain ⟨fuel, hf⟩ := h1
    exact steps_of (by simpa [Value.cells] using hf)
  clear hA0 hval0
  refine (walk s a1 len1 cap1 W ws hst).mono fun e W' ⟨he, bel⟩ => ?_
  subst he
  exact ⟨_, rfl, _, _, _, [], _, [], hW', trodAll_mk1 (shut_bool Yba.underlying4 _), (trodAll_cons_mk (shut_int Yba.underlying26 ws) (trodAll_cons_mk (Below.trod laidOut (by kernel_rfl) (of_decide_eq_true (by kernel_rfl)) k1 bel lt1) trodAll_mk0)), rfl, bel.frame _, fun h => by cases h⟩

theorem over : Rows.lawS5697BCountsRow.holds Yba.pinned (OpenSpec.ofChange Rows.lawS5697BCountsSpec) :=
  OpenClaim.holds_of_wide 4 Yba.f4 rfl rfl rfl rfl rfl rfl rfl ⟨rfl, rfl, rfl, rfl, rfl⟩ rfl rfl rfl rfl rfl (by kernel_rfl) Yba.func4 (by kernel_rfl)
    (of_decide_eq_true (by kernel_rfl)) (by unfold Func.isWrapper; first | (rw [if_pos (by decide +kernel)]; kernel_rfl) | (rw [if_neg (by decide +kernel)]; exact ⟨rfl, rfl⟩))
    (fun os started H enc _ => lifted os started H enc)

/-- ████ THE STATEMENT ████ -/
theorem proved : Rows.LawS5697BCountsSaid := over
#print axioms proved
end Go.Proofs.Ybulkdmyq.lawS5697BCounts
