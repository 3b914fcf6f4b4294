/-
  THE ROW AND THE TIED CARD of document.LawS5701AWhole.
-/
import Derived.Test.YbulkdnauDoorRows
import Derived.Test.YbulkdnauDoorCards
import Derived.Test.YbulkdnauDoorTie
import Derived.Test.YbulkdnauDoorLong
import Derived.Test.YbulkdnauDoorOpen
import Derived.ProofKit
import Derived.LaidMore
import Derived.Stop.Joined
import Derived.Lib.LaidTab
import Derived.SevenTiedAt
import Derived.OpenShut
import Derived.ChangeOld
import Derived.Below
import Derived.SizedLaws
namespace Go.Proofs.YbulkdnauDoor
open Go.ChangeShapes Go.WideShapes Go.ChangeAt Go.WideMaps Go.WideElems Go.RowKit
set_option linter.unusedVariables false

/-- The listed variable's name, off the row. -/
def nm : String := Rows.lawS5701AWholeSpec.vars.headD ""
theorem own : ownKnob Ybad.prog.godebug = none := by kernel_rfl
theorem laidOut : laidOutB Ybad.prog = true := by kernel_rfl
theorem gInd : Ybad.prog.globalNamed nm = some 0 := by kernel_rfl
theorem tInd : (Ybad.prog.globals[0]?).map (·.type) = some 41 := by kernel_rfl
theorem c9 : Ybad.prog.cellsOf 9 = 1 := by kernel_rfl
theorem c41 : Ybad.prog.cellsOf 41 = 19 := by kernel_rfl
theorem bytes3 : Ybad.prog.bytesOf 3 = 8 := by kernel_rfl
theorem bytes21 : Ybad.prog.bytesOf 21 = 4 := by kernel_rfl

theorem door_met (os : Os) (args : Array Value) : laidMetH Ybad.prog Rows.lawS5701AWholeRow.laid ((World.doorLaid Ybad.prog 400 os).forCall (fun _ _ => 0) ⟨#[], args, []⟩).memory :=
  laidMetH_of_parts3 (fuel := 8) (laidMet_of_run' 8 (by kernel_rfl) (by kernel_rfl)) (by kernel_rfl) (by kernel_rfl)

theorem of_laid {W : World} (h : laidMetH Ybad.prog Rows.lawS5701AWholeRow.laid W) : W.var? Ybad.prog nm = some cells19 := by
  rw [MakeChecks.laidMetH_plain _ _ _ (by kernel_rfl)] at h
  have h' : laidMet Ybad.prog [(nm, strData texts)] W := h
  obtain ⟨ps, ⟨g', t', cs, fuel, p, q, hg', ht', hvar, hd, _, _⟩, _⟩ := h'
  obtain rfl := Option.some.inj (gInd.symm.trans hg')
  obtain rfl := Option.some.inj (tInd.symm.trans ht')
  have := cells_of_strs Ybad.underlying41 Ybad.underlying9 c9 c41 hd
  rw [hvar]
  congr 1
  apply Array.ext'
  rw [this]
  rfl

theorem reads_table {H : Type} (enc : TypeId × Value → H) (W : World) (sp : Nat → Bool) : DataW.trod enc Ybad.prog W 0 sp true 3 41 cells19.toList = some (strData texts, []) := by kernel_rfl

set_option maxRecDepth 100000 in
theorem lifted (os : Os) (started : os.Started) (H : Type) (enc : TypeId × Value → H) :
    ReturnsInHanded {} Ybad.checked os 3 .any (fun w args => (Rows.lawS5701AWholeSpec.pre enc Ybad.prog Ybad.f3 [] false w args ∧ laidMetH Ybad.prog Rows.lawS5701AWholeRow.laid w) ∧ sizedMet enc Ybad.prog Ybad.f3 (OpenSpec.ofChange Rows.lawS5701AWholeSpec) false w args)
      (Rows.lawS5701AWholeSpec.post enc Ybad.prog Ybad.f3 false true false false) := by
  refine returnsInHanded_of_change_and (C := Ybad.checked) (X := fun w _ => laidMetH Ybad.prog Rows.lawS5701AWholeRow.laid w) (fun _ _ _ hh h => h.of_heap hh) own started (by kernel_rfl) Ybad.func3
    (ChangeSpec.witness_shaped (enc := enc) (C := Ybad.checked) (os := os) (X := fun w _ => laidMetH Ybad.prog Rows.lawS5701AWholeRow.laid w) false (World.doorLaid Ybad.prog 400 os) #[.int .i64 0, .int .i64 0, .int .i64 0, .int .i64 0, .int .u8 0, .slice none 0 0, .slice none 0 0, .bool false, .int .i32 0, .int .i32 0, .string ⟨#[]⟩] 8 rfl (World.shaped_of_RefB (by kernel_rfl) (by kernel_rfl)) (by kernel_rfl) (by kernel_rfl) (by kernel_rfl) (door_met os _)) ?_
  intro W base args ds gs before hval0 hW _ hsz0 hL _
  have hsz : (DataW.weightsEach Ybad.prog (Ybad.f3.params.toList ++ Rows.lawS5701AWholeSpec.plain.varTypes Ybad.prog) (ds ++ gs)).all (· ≤ reachBytes) = true := hsz0
  clear hsz0
  have hval : ∀ (j : Nat) t v, Ybad.f3.params[j]? = some t → args[j]? = some v → Value.okWide Ybad.prog W .any base t v := hval0
  have hW' := hW
  obtain ⟨p, q, hA0, hV0, rfl, hfz, hnd⟩ := hW
  have hA : DataW.TrodAll enc Ybad.prog W 0 (fun _ => true) true Ybad.f3.params.toList args.toList ds p := hA0
  have hV : DataW.TrodVars enc Ybad.prog W (fun _ => true) [nm] gs q := hV0
  rw [Ybad.params3] at hA hval hsz
  clear hA0 hV0 hval0
  obtain ⟨args⟩ := args
  obtain ⟨v0, vs0, d0, ds0, p0, q0, rfl, rfl, rfl, h0, hA⟩ := trodAll_cons hA
  obtain ⟨v1, vs1, d1, ds1, p1, q1, rfl, rfl, rfl, h1, hA⟩ := trodAll_cons hA
  obtain ⟨v2, vs2, d2, ds2, p2, q2, rfl, rfl, rfl, h2, hA⟩ := trodAll_cons hA
  obtain ⟨v3, vs3, d3, ds3, p3, q3, rfl, rfl, rfl, h3, hA⟩ := trodAll_cons hA
  obtain ⟨v4, vs4, d4, ds4, p4, q4, rfl, rfl, rfl, h4, hA⟩ := trodAll_cons hA
  obtain ⟨v5, vs5, d5, ds5, p5, q5, rfl, rfl, rfl, h5, hA⟩ := trodAll_cons hA
  obtain ⟨v6, vs6, d6, ds6, p6, q6, rfl, rfl, rfl, h6, hA⟩ := trodAll_cons hA
  obtain ⟨v7, vs7, d7, ds7, p7, q7, rfl, rfl, rfl, h7, hA⟩ := trodAll_cons hA
  obtain ⟨v8, vs8, d8, ds8, p8, q8, rfl, rfl, rfl, h8, hA⟩ := trodAll_cons hA
  obtain ⟨v9, vs9, d9, ds9, p9, q9, rfl, rfl, rfl, h9, hA⟩ := trodAll_cons hA
  obtain ⟨v10, vs10, d10, ds10, p10, q10, rfl, rfl, rfl, h10, hA⟩ := trodAll_cons hA
  obtain ⟨rfl, rfl, rfl⟩ := trodAll_nil hA
  obtain ⟨flows, rfl, rfl, rfl, w0⟩ := open_int Ybad.underlying3 (hval 0 3 v0 rfl rfl) h0
  obtain ⟨pos, rfl, rfl, rfl, w1⟩ := open_int Ybad.underlying3 (hval 1 3 v1 rfl rfl) h1
  obtain ⟨line, rfl, rfl, rfl, w2⟩ := open_int Ybad.underlying3 (hval 2 3 v2 rfl rfl) h2
  obtain ⟨col, rfl, rfl, rfl, w3⟩ := open_int Ybad.underlying3 (hval 3 3 v3 rfl rfl) h3
  obtain ⟨kd, rfl, rfl, rfl, w4⟩ := open_int Ybad.underlying5 (hval 4 5 v4 rfl rfl) h4
  obtain ⟨ea, n, ec, rfl⟩ := okWide_slice Ybad.underlying22 (hval 5 22 v5 rfl rfl)
  obtain ⟨pa, m, pc, rfl⟩ := okWide_slice Ybad.underlying23 (hval 6 23 v6 rfl rfl)
  obtain ⟨tb, rfl, rfl, rfl⟩ := open_bool Ybad.underlying4 (hval 7 4 v7 rfl rfl) h7
  obtain ⟨tl, rfl, rfl, rfl, w8⟩ := open_int Ybad.underlying21 (hval 8 21 v8 rfl rfl) h8
  obtain ⟨tc, rfl, rfl, rfl, w9⟩ := open_int Ybad.underlying21 (hval 9 21 v9 rfl rfl) h9
  obtain ⟨tv, rfl, rfl, rfl, w10⟩ := Go.ChangeMaps.open_string Ybad.underlying9 (hval 10 9 v10 rfl rfl) h10
  have lt5 : ∀ x ∈ p5, x.block < W.heap.size := by obtain ⟨m, hm⟩ := h5; exact DataW.trod_lt m _ _ _ hm
  have lt6 : ∀ x ∈ p6, x.block < W.heap.size := by obtain ⟨m, hm⟩ := h6; exact DataW.trod_lt m _ _ _ hm
  obtain ⟨⟨zs, hE⟩, hcap, hd5⟩ : (∃ zs, IsEnt W ea n ec zs) ∧ n ≤ ec ∧ (d5 = .nil ∧ n = 0 ∨ ∃ es sp, d5 = .slice es sp ∧ es.length = n) := by
    obtain ⟨fuel, hf⟩ := h5
    exact ent_of (by simpa [Value.cells] using hf)
  obtain ⟨⟨pb, po, ps, hP, hp⟩, hd6⟩ : (∃ (pb po : Nat) (ps : Nat → Int), (m = 0 ∨ pa = some ⟨pb, po, none⟩) ∧ ∀ j, j < m → W.cell? ⟨pb, po + j, none⟩ = some (.int .i32 (ps j))) ∧ (d6 = .nil ∧ m = 0 ∨ ∃ es sp, d6 = .slice es sp ∧ es.length = m) := by
    obtain ⟨fuel, hf⟩ := h6
    exact pri_of (by simpa [Value.cells] using hf)
  have hn8 : n * 8 ≤ 140737488351232 := by
    rcases hd5 with ⟨_, rfl⟩ | ⟨es, sp, rfl, hes⟩
    · omega
    · have := sized_slice hsz (j := 5) (t := 22) (e := 3) rfl rfl Ybad.underlying22
      rw [bytes3] at this
      simp only [reachBytes] at this
      omega
  have hm4 : m * 4 ≤ 140737488351232 := by
    rcases hd6 with ⟨_, rfl⟩ | ⟨es, sp, rfl, hes⟩
    · omega
    · have := sized_slice hsz (j := 6) (t := 23) (e := 21) rfl rfl Ybad.underlying23
      rw [bytes21] at this
      simp only [reachBytes] at this
      omega
  obtain ⟨g, t, cs, fuel, dt, p', rfl, hg, ht, hvar, hd, rfl⟩ := trodVars_one hV
  obtain rfl := Option.some.inj (gInd.symm.trans hg)
  obtain rfl := Option.some.inj (tInd.symm.trans ht)
  obtain rfl : cs = cells19 := Option.some.inj (hvar.symm.trans (of_laid hL))
  obtain ⟨rfl, rfl⟩ := DataW.Trod.unique (v := .agg cells19) ⟨fuel, hd⟩ ⟨3, reads_table enc W _⟩
  have hI : ∀ k, k < 19 → W.cell? ⟨0, k, none⟩ = some (.string (ind k)) := fun k hk => (World.var?_cell hg hvar k).trans (cells19_at k hk)
  have h0w : 0 < W.heap.size := World.block_lt_of_cell? W _ (hI 0 (by omega))
  obtain ⟨kn, rfl, hkn⟩ : ∃ kn : Nat, kd = (kn : Int) ∧ kn < 256 := by
    have hr : 0 ≤ kd ∧ kd ≤ 255 := by simpa [Lit.wf, IntKind.min, IntKind.max, IntKind.signed, IntKind.bits] using w4
    exact ⟨kd.toNat, by omega, by omega⟩
  refine (law_any flows pos line col kn n ec m pc ea pa tb tl tc tv pb po zs ps W hkn hcap (by omega) hE hP hp hI).mono fun e W' ⟨he, bel⟩ => ?_
  subst he
  have hvars : ∀ sp : Nat → Bool, DataW.TrodVars enc Ybad.prog W' sp [nm] [strData texts] (MemPlace.row ⟨0, 0, none⟩ cells19.size ++ [] ++ []) := fun sp =>
    ⟨0, 41, cells19, 3, [], [], hg, ht, var?_below bel hg h0w hvar, reads_table enc W' sp, rfl, rfl⟩
  have L5 := Below.trod laidOut (by kernel_rfl) (of_decide_eq_true (by kernel_rfl)) h5 bel lt5
  have L6 := Below.trod laidOut (by kernel_rfl) (of_decide_eq_true (by kernel_rfl)) h6 bel lt6
  exact ⟨_, rfl, _, _, _, [], _, _, hW', trodAll_mk1 (shut_bool Ybad.underlying4 _),
    trodAll_cons_mk (shut_int Ybad.underlying3 w0) (trodAll_cons_mk (shut_int Ybad.underlying3 w1) (trodAll_cons_mk (shut_int Ybad.underlying3 w2) (trodAll_cons_mk (shut_int Ybad.underlying3 w3) (trodAll_cons_mk (shut_int Ybad.underlying5 w4)
      (trodAll_cons_mk L5 (trodAll_cons_mk L6 (trodAll_cons_mk (shut_bool Ybad.underlying4 tb) (trodAll_cons_mk (shut_int Ybad.underlying21 w8) (trodAll_cons_mk (shut_int Ybad.underlying21 w9) (trodAll_cons_mk (Go.ChangeMaps.shut_string Ybad.underlying9 w10) trodAll_mk0)))))))))),
    hvars _, bel.frame _, fun h => by cases h⟩

theorem row_holds : Rows.LawS5701AWholeSaid :=
  OpenClaim.holds_of_wide 3 Ybad.f3 rfl rfl rfl rfl rfl rfl rfl ⟨rfl, rfl, rfl, rfl, rfl⟩ rfl rfl rfl rfl rfl (by kernel_rfl) Ybad.func3 (by kernel_rfl)
    (of_decide_eq_true (by kernel_rfl)) (by unfold Func.isWrapper; first | (rw [if_pos (by decide +kernel)]; kernel_rfl) | (rw [if_neg (by decide +kernel)]; exact ⟨rfl, rfl⟩))
    (fun os started H enc _ => lifted os started H enc)

/-- ████ THE STATEMENT ████ -/
theorem lawS5701AWhole_card : Rows.LawS5701AWholeCardSaid :=
  Claim7.holds_tied_plain_at .later [] [.data] true (true, "11c65cf2fce75af2637a2eb4965d9971bb52541c4e71dfd77c21d4c262b5a2b8") false
    row_holds (fun _ h => by cases h) (by kernel_rfl) (fun _ h => by cases h) lawS5701AWhole_row_tie rfl ⟨rfl, rfl⟩ (by kernel_rfl) rfl
    (fun f fn hf hfn => by
      obtain rfl : f = 3 := Option.some.inj ((show Ybad.prog.funcNamed Rows.lawS5701AWholeRow.func = some 3 by kernel_rfl).symm.trans hf) |>.symm
      obtain rfl : fn = Ybad.f3 := (Option.some.inj (Ybad.func3.symm.trans hfn)).symm
      exact ⟨by kernel_rfl, fun j t ht => by
        rw [Ybad.params3] at ht
        have hm : t ∈ [3, 3, 3, 3, 5, 22, 23, 4, 21, 21, 9] := by simpa using Array.mem_of_getElem? ht
        have hall : ([3, 3, 3, 3, 5, 22, 23, 4, 21, 21, 9].all fun u => !Ybad.prog.wantsStandIn u) = true := by kernel_rfl
        exact (show Ybad.prog.wantsStandIn t = false by simpa using List.all_eq_true.1 hall t hm)⟩)
    (by kernel_rfl)
#print axioms lawS5701AWhole_card
end Go.Proofs.YbulkdnauDoor
