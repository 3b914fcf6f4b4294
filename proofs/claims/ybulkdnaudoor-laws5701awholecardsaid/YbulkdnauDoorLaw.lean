/-
  THE WALK of document.LawS5701AWhole.
-/
import Derived.Test.YbulkdnauDoorBlock
import Derived.Test.YbulkdnauDoorSl
import Derived.Test.YbulkdnauDoorTok
import Derived.Lib.SlBytesConst
import Derived.Test.YbulkdnauDoorCmp
namespace Go.Proofs.YbulkdnauDoor
open Go.RowKit

theorem make_toks (m : Nat) (hm : m ≤ 1048576) (w : World) : (Instr.makeSlice 26 (.int .i64 (m : Int)) (.int .i64 (m : Int))).run Ybad.prog w =
    .ok (.slice (some ⟨w.heap.size, 0, none⟩) m m) (w.alloc (.cells (madeCells #[.int .u8 0, .bool false, .int .i32 0, .int .i32 0, .string ⟨#[]⟩] (m * 5)) 28)) := by
  obtain ⟨i, hi, hzz⟩ := Option.map_eq_some_iff.1 Ybad.info28
  simp only [Prod.mk.injEq] at hzz
  obtain ⟨hz, hs, hb⟩ := hzz
  have hr := run_make (P := Ybad.prog) w 26 28 i _ Ybad.underlying26 hi hz .i64 .i64 m m (by omega) (Int.le_refl _) (by rw [hb]; omega) (by omega)
  rw [hs] at hr
  exact hr

set_option maxRecDepth 100000 in
set_option maxHeartbeats 4000000 in
theorem law_flow (flows pos line col : Int) (kd n ec m pc : Nat) (ea pa : Option Addr) (tb : Bool) (tl tc : Int) (tv : ByteArray) (pb po : Nat) (zs ps : Nat → Int) (w : World)
    (hfl : (flows == 0) = false) (hkd : kd < 256) (hnm : n + m ≤ 1048576) (hE : IsEnt w ea n ec zs) (hP : m = 0 ∨ pa = some ⟨pb, po, none⟩) (hp : ∀ j, j < m → w.cell? ⟨pb, po + j, none⟩ = some (.int .i32 (ps j)))
    (hI : ∀ k, k < 19 → w.cell? ⟨0, k, none⟩ = some (.string (ind k))) :
    Calls Ybad.prog 3 #[.int .i64 flows, .int .i64 pos, .int .i64 line, .int .i64 col, .int .u8 (kd : Int), .slice ea n ec, .slice pa m pc, .bool tb, .int .i32 tl, .int .i32 tc, .string tv] w fun e w' => e = .returned (.bool true) ∧ Below w.heap.size w w' := by
  obtain ⟨k, hk⟩ : ∃ k, kd % 19 = k := ⟨_, rfl⟩
  have hk19 : k < 19 := by omega
  have hkI : ((kd : Int) % 19) = (k : Int) := by omega
  clear hk
  have HE : Hid (IsEnt w ea n ec zs) := hE
  have HP : Hid (m = 0 ∨ pa = some ⟨pb, po, none⟩) := hP
  have HII : Hid (∀ k, k < 19 → w.cell? ⟨0, k, none⟩ = some (.string (ind k))) := hI
  have HPC : Hid (∀ j, j < m → w.cell? ⟨pb, po + j, none⟩ = some (.int .i32 (ps j))) := hp
  clear hE hP hI hp
  have hmk := make_toks m (by omega)
  have kc := fun (w : World) (C : Array Value) (n c : Nat) => Lib.run_convert_bytes_const (P := Ybad.prog) w 30 5 C n c Ybad.underlying30 Ybad.underlying5
  go_enter Ybad.func3, Ybad.ntmps3
  go_wp2_with fail
  refine (clone_any ea n ec zs w (by omega) HE.out).mono ?_
  rintro e w1 ⟨ve, rfl, hoE, hb1⟩
  obtain ⟨va, vc, rfl⟩ := own_slice hoE
  go_wp2
  obtain ⟨Z, hZ⟩ : ∃ Z : Nat → Value, Z = fun i => (madeCells #[.int .u8 0, .bool false, .int .i32 0, .int .i32 0, .string ⟨#[]⟩] (m * 5)).getD i undef := ⟨_, rfl⟩
  have HZ : Hid (Z = fun i => (madeCells #[.int .u8 0, .bool false, .int .i32 0, .int .i32 0, .string ⟨#[]⟩] (m * 5)).getD i undef) := hZ
  clear hZ
  go_loopw [56] (fun i wr => ∃ j : Nat, j ≤ m ∧ i = .int .i64 (j : Int) ∧ wr.rowIs w1.heap.size 28 (m * 5) (fill ps Z j) ∧ Below w1.heap.size w1 wr) (fun i _ => m - (intOf i).toNat)
  case atStart => exact ⟨0, Nat.zero_le _, rfl, by rw [HZ.out]; exact fill_start w1 m ps _, (Below.refl _ _).alloc (Nat.le_refl _) _⟩
  case round =>
    obtain ⟨j, hj, rfl, hr, hb⟩ := hrel
    by_cases hlt : j < m
    · obtain rfl : pa = some ⟨pb, po, none⟩ := by
        rcases HP.out with h | h
        · omega
        · exact h
      have c0 := cell_later hb (cell_later hb1 (HPC.out j hlt))
      have f0 := hr.cell (show j * 5 < m * 5 by omega)
      have f1 := hr.cell (show j * 5 + 1 < m * 5 by omega)
      have f2 := hr.cell (show j * 5 + 2 < m * 5 by omega)
      have f3 := hr.cell (show j * 5 + 3 < m * 5 by omega)
      have f4 := hr.cell (show j * 5 + 4 < m * 5 by omega)
      have z0 := hr.frozen (j * 5)
      have z1 := hr.frozen (j * 5 + 1)
      have z2 := hr.frozen (j * 5 + 2)
      have z3 := hr.frozen (j * 5 + 3)
      have z4 := hr.frozen (j * 5 + 4)
      clear hmk
      go_wp2
      go_roundw
      case rel => exact ⟨j + 1, by omega, by go_num, fill_row hr, fill_below hb (Nat.le_refl _)⟩
      case measure => simp [intOf]; omega
    · obtain rfl : j = m := by omega
      have hoT := own_toks (B := w.heap.size) hr hb1.size (by omega)
      have hoE' := own_kept hoE (Below.toKeep (S := fun k => w1.heap.size ≤ k) hb (fun k _ h => by omega)) (fun k hk => by have := (hoE.lt k hk).2; omega)
      have hlt1 := hr.lt
      have hltE := fun k hk => (hoE.lt k hk).2
      have hbw : Below w.heap.size w wr := hb1.trans (hb.mono hb1.size)
      have hi0 := cell_later hbw (HII.out k hk19)
      clear hoE hr hmk
      go_wp2_with fail
      have b3 := fun X Y Z => (((Below.refl wr.heap.size wr).alloc (Nat.le_refl _) X).alloc (by simp) Y).alloc (by simp; omega) Z
      refine (block_flow (wr.heap.size + 1) w1.heap.size w.heap.size j k (scan (.slice (some ⟨wr.heap.size, 0, none⟩) 6 6) (.int .i64 pos) (.int .i64 line) (.int .i64 flows) (.slice va n vc) (.slice (some ⟨w1.heap.size, 0, none⟩) j j)) flows pos col 0 tl tc tb tv (ind k) (toks ps j) _
        (by have := (scan_row (wr.alloc (.cells #[.int .u8 45, .int .u8 32, .int .u8 97, .int .u8 58, .int .u8 32, .int .u8 98] 5 (6, 7))) (.slice (some ⟨wr.heap.size, 0, none⟩) 6 6) (.int .i64 pos) (.int .i64 line) (.int .i64 flows) (.slice va n vc) (.slice (some ⟨w1.heap.size, 0, none⟩) j j)).alloc (.cells #[.int .u8 0, .bool tb, .int .i32 tl, .int .i32 tc, .string tv] 28); simpa using this)
        rfl rfl rfl hfl (by omega) (by omega) (by have := hbw.size; simp; omega) hk19 (cell_later (b3 _ _ _) hi0) (((hoT.alloc _).alloc _).alloc _)).mono ?_
      rintro e w2 ⟨rfl, g, cap, hr2, ho2, hg2, hK2⟩
      have hbw2 : Below w.heap.size w w2 := (((hbw.alloc hbw.size _).alloc (by have := hbw.size; simp; omega) _).alloc (by have := hbw.size; simp; omega) _).trans (hK2.below (fun x hx => by have := hbw.size; have := hb1.size; rcases hx with h | h <;> omega) (by have := hbw.size; simp; omega))
      have hoE2 := own_kept (((hoE'.alloc _).alloc _).alloc _) hK2 (fun x hx => by have := hltE x hx; rintro (h | h) <;> omega)
      have hd2 : ∀ x (hx : x < 6), w2.cell? ⟨wr.heap.size, x, none⟩ = some (.int .u8 (dat[x].toNat : Int)) := fun x hx => hK2.cellAt (Lib.cell?_alloc_marked _ (Lib.cell?_alloc_marked _ (dat_cells wr x hx))) (by rintro (h | h) <;> simp at h; omega)
      have c8 : w2.cell? ⟨wr.heap.size + 1, 8, none⟩ = some (.slice va n vc) := hr2.cell (show 8 < 11 by omega)
      have hE2 := HE.out.later hbw2 rfl
      clear hK2 hoT hoE' hi0 b3
      go_wp2_with fail
      refine (ind_any k hk19 _).mono ?_
      rintro e w2' ⟨rfl, rfl⟩
      go_wp2_with fail
      refine (equal_ent ea _ w.heap.size n ec zs _ (by omega) hoE2 hE2).mono ?_
      rintro e w3' ⟨rfl, q, rfl⟩
      clear hoE2 hE2 c8
      obtain ⟨w3, hw3⟩ : ∃ w3, w3 = w2'.drewN q := ⟨_, rfl⟩
      have hbw3 : Below w.heap.size w w3 := by rw [hw3]; exact ⟨hbw2.os, hbw2.tape, hbw2.output, hbw2.size, hbw2.block⟩
      have hr3 := hr2
      change (w2'.drewN q).rowIs _ _ _ _ at hr3
      have ho3 := ho2
      change (w2'.drewN q).ownsRow _ _ _ _ _ _ at ho3
      rw [← hw3] at hr3 ho3
      have hd3 : ∀ x (hx : x < 6), w3.cell? ⟨wr.heap.size, x, none⟩ = some (.int .u8 (dat[x].toNat : Int)) := by rw [hw3]; exact hd2
      rw [← hw3]
      clear hw3 hbw2 hr2 ho2 hd2
      have c0 : w3.cell? ⟨wr.heap.size + 1, 0, none⟩ = some (.slice (some ⟨wr.heap.size, 0, none⟩) 6 6) := hr3.cell (show 0 < 11 by omega)
      have c1 : w3.cell? ⟨wr.heap.size + 1, 1, none⟩ = some (.int .i64 (wrap64 (pos + ((ind k).size : Int)))) := hr3.cell (show 1 < 11 by omega)
      have c2 : w3.cell? ⟨wr.heap.size + 1, 2, none⟩ = some (.int .i64 line) := hr3.cell (show 2 < 11 by omega)
      have c3 : w3.cell? ⟨wr.heap.size + 1, 3, none⟩ = some (.int .i64 3) := hr3.cell (show 3 < 11 by omega)
      have c4 : w3.cell? ⟨wr.heap.size + 1, 4, none⟩ = some (.int .i64 4) := hr3.cell (show 4 < 11 by omega)
      have c5 : w3.cell? ⟨wr.heap.size + 1, 5, none⟩ = some (.int .i64 5) := hr3.cell (show 5 < 11 by omega)
      have c6 : w3.cell? ⟨wr.heap.size + 1, 6, none⟩ = some (.bool true) := hr3.cell (show 6 < 11 by omega)
      have c7 : w3.cell? ⟨wr.heap.size + 1, 7, none⟩ = some (.int .i64 flows) := hr3.cell (show 7 < 11 by omega)
      have c9 : w3.cell? ⟨wr.heap.size + 1, 9, none⟩ = some (.slice (some ⟨g, 0, none⟩) (j + 1) cap) := hr3.cell (show 9 < 11 by omega)
      have c10 : w3.cell? ⟨wr.heap.size + 1, 10, none⟩ = some (.slice none 0 0) := hr3.cell (show 10 < 11 by omega)
      have nt := neq_tok
      have hps : Hid (∀ x, x < j → w3.cell? ⟨pb, po + x, none⟩ = some (.int .i32 (ps x))) := fun x hx => cell_later hbw3 (HPC.out x hx)
      have hto : Hid _ := tok_old ho3
      have htn : Hid _ := tok_new ho3
      clear hr3 ho3
      go_wp2
      go_loopw [137] (fun i wq => ∃ x : Nat, x ≤ j ∧ i = .int .i64 (x : Int) ∧ wq = w3) (fun i _ => j - (intOf i).toNat)
      case atStart => exact ⟨0, Nat.zero_le _, rfl, rfl⟩
      case round =>
        obtain ⟨x, hx, rfl, rfl⟩ := hrel
        by_cases hxl : x < j
        · obtain rfl : pa = some ⟨pb, po, none⟩ := by
            rcases HP.out with h | h
            · omega
            · exact h
          have p0 := hps.out x hxl
          obtain ⟨o0, o1, o2, o3, o4⟩ := hto.out x hxl
          clear c0 c1 c2 c3 c4 c5 c6 c7 c10 hd3 kc
          go_wp2
          go_roundw
          case rel => exact ⟨x + 1, by omega, by go_num, trivial⟩
          case measure => simp [intOf]; omega
        · obtain rfl : x = j := by omega
          obtain ⟨o0, o1, o2, o3, o4⟩ := htn.out
          have kb := dat_back _ _ hd3
          have q30 := fun (w : World) (a : Option Addr) (n c n' c' : Nat) => Lib.run_eql_slice_nil (P := Ybad.prog) w 30 5 a n c n' c' Ybad.underlying30
          clear hd3 kc
          go_wp2
          go_ret
          exact ⟨rfl, hbw3⟩
end Go.Proofs.YbulkdnauDoor
