/-
  THE ROW AND THE TIED CARD of 'mgm.LawS5696CWhole'.
-/
import Derived.Test.YbulkdmycDoorRows
import Derived.Test.YbulkdmycDoorCards
import Derived.Test.YbulkdmycDoorTie
import Derived.Test.YbulkdmycDoorWalkC
import Derived.ProofKit
import Derived.LaidMore
import Derived.Stop.Joined
import Derived.Lib.LaidTab
import Derived.SevenTiedAt
namespace Go.Proofs.YbulkdmycDoor
open Go.ChangeShapes Go.WideShapes Go.ChangeAt Go.WideMaps Go.WideElems Go.RowKit

/-- The listed variable's name, off the row. -/
def nm : String := Rows.lawS5696CWholeSpec.vars.headD ""
theorem own : ownKnob Ybad.prog.godebug = none := by kernel_rfl
theorem gLanes : Ybad.prog.globalNamed nm = some 0 := by kernel_rfl
theorem tLanes : (Ybad.prog.globals[0]?).map (·.type) = some 28 := by kernel_rfl
theorem c22 : Ybad.prog.cellsOf 22 = 1 := by kernel_rfl
theorem c28 : Ybad.prog.cellsOf 28 = 5 := by kernel_rfl

def zs : List Int := [1190112520884487201, 2380225041768974402, 4760450083537948804, 9520900167075897608, 595056260442243600]
def cells5 : Array Value := #[.int .u64 1190112520884487201, .int .u64 2380225041768974402, .int .u64 4760450083537948804, .int .u64 9520900167075897608, .int .u64 595056260442243600]

theorem door_met (os : Os) (args : Array Value) : laidMetH Ybad.prog Rows.lawS5696CWholeRow.laid ((World.doorLaid Ybad.prog 400 os).forCall (fun _ _ => 0) ⟨#[], args, []⟩).memory :=
  laidMetH_of_parts3 (fuel := 8) (laidMet_of_run' 8 (by kernel_rfl) (by kernel_rfl)) (by kernel_rfl) (by kernel_rfl)

theorem of_laid {W : World} (h : laidMetH Ybad.prog Rows.lawS5696CWholeRow.laid W) : W.var? Ybad.prog nm = some cells5 := by
  rw [MakeChecks.laidMetH_plain _ _ _ (by kernel_rfl)] at h
  have h' : laidMet Ybad.prog [(nm, Lib.tabData .u64 zs)] W := h
  exact Lib.tabIs_of_head gLanes tLanes Ybad.underlying28 Ybad.underlying22 c22 c28 h'

theorem reads_table {H : Type} (enc : TypeId × Value → H) (W : World) (sp : Nat → Bool) : DataW.trod enc Ybad.prog W 0 sp true 3 28 cells5.toList = some (Lib.tabData .u64 zs, []) := by kernel_rfl

set_option maxRecDepth 100000 in
theorem lifted (os : Os) (started : os.Started) (H : Type) (enc : TypeId × Value → H) :
    ReturnsInHanded {} Ybad.checked os 3 .any (fun w args => (Rows.lawS5696CWholeSpec.pre enc Ybad.prog Ybad.f3 [] false w args ∧ laidMetH Ybad.prog Rows.lawS5696CWholeRow.laid w) ∧ sizedMet enc Ybad.prog Ybad.f3 (OpenSpec.ofChange Rows.lawS5696CWholeSpec) false w args)
      (Rows.lawS5696CWholeSpec.post enc Ybad.prog Ybad.f3 false true false false) := by
  refine returnsInHanded_of_change_and (C := Ybad.checked) (X := fun w _ => laidMetH Ybad.prog Rows.lawS5696CWholeRow.laid w) (fun _ _ _ hh h => h.of_heap hh) own started (by kernel_rfl) Ybad.func3
    (ChangeSpec.witness_shaped (enc := enc) (C := Ybad.checked) (os := os) (X := fun w _ => laidMetH Ybad.prog Rows.lawS5696CWholeRow.laid w) false (World.doorLaid Ybad.prog 400 os) #[.int .u64 0, .int .u64 0, .int .u64 0, .int .u64 0] 8 rfl (World.shaped_of_RefB (by kernel_rfl) (by kernel_rfl)) (by kernel_rfl) (by kernel_rfl) (by kernel_rfl) (door_met os _)) ?_
  intro W base args ds gs before hval0 hW _ _ hL _
  have hval : ∀ (j : Nat) t v, Ybad.f3.params[j]? = some t → args[j]? = some v → Value.okWide Ybad.prog W .any base t v := hval0
  have hW' := hW
  obtain ⟨p, q, hA0, hV0, rfl, hfz, hnd⟩ := hW
  have hA : DataW.TrodAll enc Ybad.prog W 0 (fun _ => true) true Ybad.f3.params.toList args.toList ds p := hA0
  have hV : DataW.TrodVars enc Ybad.prog W (fun _ => true) [nm] gs q := hV0
  rw [Ybad.params3] at hA hval
  obtain ⟨v0, v1, v2, v3, d0, d1, d2, d3, p0, p1, p2, p3, rfl, rfl, rfl, h0, h1, h2, h3⟩ := trodAll_four hA
  obtain ⟨a, rfl, rfl, rfl, wa⟩ := open_int Ybad.underlying22 (hval 0 22 v0 rfl rfl) h0
  obtain ⟨b, rfl, rfl, rfl, wb⟩ := open_int Ybad.underlying22 (hval 1 22 v1 rfl rfl) h1
  obtain ⟨c, rfl, rfl, rfl, wc⟩ := open_int Ybad.underlying22 (hval 2 22 v2 rfl rfl) h2
  obtain ⟨d, rfl, rfl, rfl, wd⟩ := open_int Ybad.underlying22 (hval 3 22 v3 rfl rfl) h3
  obtain ⟨g, t, cs, fuel, dt, p', rfl, hg, ht, hvar, hd, rfl⟩ := trodVars_one hV
  obtain rfl := Option.some.inj (gLanes.symm.trans hg)
  obtain rfl := Option.some.inj (tLanes.symm.trans ht)
  obtain rfl : cs = cells5 := Option.some.inj (hvar.symm.trans (of_laid hL))
  obtain ⟨rfl, rfl⟩ := DataW.Trod.unique (v := .agg cells5) ⟨fuel, hd⟩ ⟨3, reads_table enc W _⟩
  clear hA0 hV0 hval0
  have hvars : ∀ sp : Nat → Bool, DataW.TrodVars enc Ybad.prog W sp [nm] [Lib.tabData .u64 zs] (MemPlace.row ⟨0, 0, none⟩ cells5.size ++ [] ++ []) := fun sp =>
    ⟨0, 28, cells5, 3, [], [], hg, ht, hvar, reads_table enc W sp, rfl, rfl⟩
  have hlanes : Lanes W := ⟨World.var?_cell hg hvar 0, World.var?_cell hg hvar 1, World.var?_cell hg hvar 2, World.var?_cell hg hvar 3, World.var?_cell hg hvar 4⟩
  obtain ⟨xa, rfl⟩ := B_of a wa
  obtain ⟨xb, rfl⟩ := B_of b wb
  obtain ⟨xc, rfl⟩ := B_of c wc
  obtain ⟨xd, rfl⟩ := B_of d wd
  refine (law_any xa xb xc xd W hlanes).mono fun e W' ⟨he, n, hw⟩ => ?_
  subst he; subst hw
  exact ⟨_, rfl, ChangeSpec.post_alike (post_of_same (pa := []) hW' (fun _ _ _ => trodAll_mk1 (shut_bool Ybad.underlying4 true))
    (fun sp _ => trodAll_mk4 (shut_int Ybad.underlying22 wa) (shut_int Ybad.underlying22 wb) (shut_int Ybad.underlying22 wc) (shut_int Ybad.underlying22 wd)) (fun sp _ => hvars sp) (by simp)
    (World.keptBut_refl _ _) (fun _ => rfl) (ok_one (by kernel_rfl) rfl (okWide_bool_mk Ybad.underlying4 true))) (World.drewN_alike _ _)⟩

theorem row_holds : Rows.LawS5696CWholeSaid :=
  OpenClaim.holds_of_wide 3 Ybad.f3 rfl rfl rfl rfl rfl rfl rfl ⟨rfl, rfl, rfl, rfl, rfl⟩ rfl rfl rfl rfl rfl (by kernel_rfl) Ybad.func3 (by kernel_rfl)
    (of_decide_eq_true (by kernel_rfl)) (by unfold Func.isWrapper; first | (rw [if_pos (by decide +kernel)]; kernel_rfl) | (rw [if_neg (by decide +kernel)]; exact ⟨rfl, rfl⟩))
    (fun os started H enc _ => lifted os started H enc)

/-- ████ THE STATEMENT ████ -/
theorem lawS5696CWhole_card : Rows.LawS5696CWholeCardSaid :=
  Claim7.holds_tied_plain_at .later [] [.data] true (true, "d936b6b570598c06b8583c26b449b954a7ec771c6fa8c9ff0180fa7134fe357f") false
    row_holds (fun _ h => by cases h) (by kernel_rfl) (fun _ h => by cases h) lawS5696CWhole_row_tie rfl ⟨rfl, rfl⟩ (by kernel_rfl) rfl
    (fun f fn hf hfn => by
      obtain rfl : f = 3 := Option.some.inj ((show Ybad.prog.funcNamed Rows.lawS5696CWholeRow.func = some 3 by kernel_rfl).symm.trans hf) |>.symm
      obtain rfl : fn = Ybad.f3 := (Option.some.inj (Ybad.func3.symm.trans hfn)).symm
      exact ⟨by kernel_rfl, fun j t ht => by
        rw [Ybad.params3] at ht
        have hm : t ∈ [22, 22, 22, 22] := by simpa using Array.mem_of_getElem? ht
        have hall : ([22, 22, 22, 22].all fun u => !Ybad.prog.wantsStandIn u) = true := by kernel_rfl
        exact (show Ybad.prog.wantsStandIn t = false by simpa using List.all_eq_true.1 hall t hm)⟩)
    (by kernel_rfl)
#print axioms lawS5696CWhole_card
end Go.Proofs.YbulkdmycDoor
