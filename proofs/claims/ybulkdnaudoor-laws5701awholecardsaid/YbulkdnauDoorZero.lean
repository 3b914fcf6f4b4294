/-
  THE WALK of document.LawS5701AWhole, with no flow open.
-/
import Derived.Test.YbulkdnauDoorLaw
namespace Go.Proofs.YbulkdnauDoor
open Go.RowKit

theorem IsEnt.cut {w : World} {a : Option Addr} {n c K : Nat} {zs : Nat → Int} (h : IsEnt w a n c zs) (hK : K ≤ n) : IsEnt w a K c zs := by
  rcases h with ⟨rfl, rfl, rfl⟩ | ⟨x, ha, rfl⟩ | ⟨b, o, ha, hc⟩
  · exact .inl ⟨rfl, by omega, rfl⟩
  · exact .inr (.inl ⟨x, ha, by omega⟩)
  · exact .inr (.inr ⟨b, o, ha, fun j hj => hc j (by omega)⟩)

set_option maxRecDepth 100000 in
set_option maxHeartbeats 4000000 in
theorem law_zero (pos line col : Int) (kd n ec m pc : Nat) (ea pa : Option Addr) (tb : Bool) (tl tc : Int) (tv : ByteArray) (pb po : Nat) (zs ps : Nat → Int) (w : World)
    (hcap : n ≤ ec) (hkd : kd < 256) (hnm : n + m ≤ 1048576) (hE : IsEnt w ea n ec zs) (hP : m = 0 ∨ pa = some ⟨pb, po, none⟩) (hp : ∀ j, j < m → w.cell? ⟨pb, po + j, none⟩ = some (.int .i32 (ps j)))
    (hI : ∀ k, k < 19 → w.cell? ⟨0, k, none⟩ = some (.string (ind k))) :
    Calls Ybad.prog 3 #[.int .i64 0, .int .i64 pos, .int .i64 line, .int .i64 col, .int .u8 (kd : Int), .slice ea n ec, .slice pa m pc, .bool tb, .int .i32 tl, .int .i32 tc, .string tv] w fun e w' => e = .returned (.bool true) ∧ Below w.heap.size w w' := by
  obtain ⟨k, hk⟩ : ∃ k, kd % 19 = k := ⟨_, rfl⟩
  have hk19 : k < 19 := by omega
  have hkI : ((kd : Int) % 19) = (k : Int) := by omega
  clear hk
  have h0w : 0 < w.heap.size := World.block_lt_of_cell? w _ (hI 0 (by omega))
  obtain ⟨i0, hi, hz0, hz1, hz2⟩ := info_parts Ybad.info3
  obtain ⟨K, hKd⟩ : ∃ K, K = keep zs (wrap64 (col - 1)) n := ⟨_, rfl⟩
  have hKn : K ≤ n := by rw [hKd]; exact keep_le _ _ _
  have HK : Hid (K = keep zs (wrap64 (col - 1)) n) := hKd
  clear hKd
  have HE : Hid (IsEnt w ea n ec zs) := hE
  have HP : Hid (m = 0 ∨ pa = some ⟨pb, po, none⟩) := hP
  have HII : Hid (∀ k, k < 19 → w.cell? ⟨0, k, none⟩ = some (.string (ind k))) := hI
  have HPC : Hid (∀ j, j < m → w.cell? ⟨pb, po + j, none⟩ = some (.int .i32 (ps j))) := hp
  clear hE hP hI hp
  have hmk := make_toks m (by omega)
  have kc := fun (w : World) (C : Array Value) (n c : Nat) => Lib.run_convert_bytes_const (P := Ybad.prog) w 30 5 C n c Ybad.underlying30 Ybad.underlying5
  go_enter Ybad.func3, Ybad.ntmps3
  go_wp2_with fail
  refine (clone_any ea n ec zs w (by omega) HE.out).mono ?_
  rintro e w1 ⟨ve, rfl, hoE, hb1⟩
  obtain ⟨va, vc, rfl⟩ := own_slice hoE
  go_wp2
  obtain ⟨Z, hZ⟩ : ∃ Z : Nat → Value, Z = fun i => (madeCells #[.int .u8 0, .bool false, .int .i32 0, .int .i32 0, .string ⟨#[]⟩] (m * 5)).getD i undef := ⟨_, rfl⟩
  have HZ : Hid (Z = fun i => (madeCells #[.int .u8 0, .bool false, .int .i32 0, .int .i32 0, .string ⟨#[]⟩] (m * 5)).getD i undef) := hZ
  clear hZ
  go_loopw [56] (fun i wr => ∃ j : Nat, j ≤ m ∧ i = .int .i64 (j : Int) ∧ wr.rowIs w1.heap.size 28 (m * 5) (fill ps Z j) ∧ Below w1.heap.size w1 wr) (fun i _ => m - (intOf i).toNat)
  case atStart => exact ⟨0, Nat.zero_le _, rfl, by rw [HZ.out]; exact fill_start w1 m ps _, (Below.refl _ _).alloc (Nat.le_refl _) _⟩
  case round =>
    obtain ⟨j, hj, rfl, hr, hb⟩ := hrel
    by_cases hlt : j < m
    · obtain rfl : pa = some ⟨pb, po, none⟩ := by
        rcases HP.out with h | h
        · omega
        · exact h
      have c0 := cell_later hb (cell_later hb1 (HPC.out j hlt))
      have f0 := hr.cell (show j * 5 < m * 5 by omega)
      have f1 := hr.cell (show j * 5 + 1 < m * 5 by omega)
      have f2 := hr.cell (show j * 5 + 2 < m * 5 by omega)
      have f3 := hr.cell (show j * 5 + 3 < m * 5 by omega)
      have f4 := hr.cell (show j * 5 + 4 < m * 5 by omega)
      have z0 := hr.frozen (j * 5)
      have z1 := hr.frozen (j * 5 + 1)
      have z2 := hr.frozen (j * 5 + 2)
      have z3 := hr.frozen (j * 5 + 3)
      have z4 := hr.frozen (j * 5 + 4)
      clear hmk
      go_wp2
      go_roundw
      case rel => exact ⟨j + 1, by omega, by go_num, fill_row hr, fill_below hb (Nat.le_refl _)⟩
      case measure => simp [intOf]; omega
    · obtain rfl : j = m := by omega
      have hoT := own_toks (B := w.heap.size) hr hb1.size (by omega)
      have hoE' := own_kept hoE (Below.toKeep (S := fun k => w1.heap.size ≤ k) hb (fun k _ h => by omega)) (fun k hk => by have := (hoE.lt k hk).2; omega)
      have hlt1 := hr.lt
      have hltE := fun k hk => (hoE.lt k hk).2
      have hgeE := fun k hk => (hoE.lt k hk).1
      have hbw : Below w.heap.size w wr := hb1.trans (hb.mono hb1.size)
      have hi0 := cell_later hbw (HII.out k hk19)
      clear hoE hr hmk
      go_wp2_with fail
      have b3 := fun X Y Z => (((Below.refl wr.heap.size wr).alloc (Nat.le_refl _) X).alloc (by simp) Y).alloc (by simp; omega) Z
      refine (block_zero (wr.heap.size + 1) w1.heap.size w.heap.size j k n (.slice va n vc) zs (scan (.slice (some ⟨wr.heap.size, 0, none⟩) 6 6) (.int .i64 pos) (.int .i64 line) (.int .i64 0) (.slice va n vc) (.slice (some ⟨w1.heap.size, 0, none⟩) j j)) pos col 0 tl tc tb tv (ind k) (toks ps j) _
        (by have := (scan_row (wr.alloc (.cells #[.int .u8 45, .int .u8 32, .int .u8 97, .int .u8 58, .int .u8 32, .int .u8 98] 5 (6, 7))) (.slice (some ⟨wr.heap.size, 0, none⟩) 6 6) (.int .i64 pos) (.int .i64 line) (.int .i64 0) (.slice va n vc) (.slice (some ⟨w1.heap.size, 0, none⟩) j j)).alloc (.cells #[.int .u8 0, .bool tb, .int .i32 tl, .int .i32 tc, .string tv] 28); simpa using this)
        rfl rfl rfl rfl (fun e => by have := hltE _ e; omega) (fun e => by have := hltE _ e; omega) (fun e => by have := hgeE _ e; omega) (by omega) (by omega) (by omega) (by omega) (by have := hbw.size; simp; omega) hk19 (cell_later (b3 _ _ _) hi0) (((hoE'.alloc _).alloc _).alloc _) (((hoT.alloc _).alloc _).alloc _) K HK.out).mono ?_
      rintro e w2 ⟨rfl, g, cap, g', cap', hr2, ho2, hoE2, hK2⟩
      have hbw2 : Below w.heap.size w w2 := (((hbw.alloc hbw.size _).alloc (by have := hbw.size; simp; omega) _).alloc (by have := hbw.size; simp; omega) _).trans (hK2.below (fun x hx => by have := hbw.size; have := hb1.size; rcases hx with h | h | h; omega; omega; exact hgeE x h) (by have := hbw.size; simp; omega))
      have hd2 : ∀ x (hx : x < 6), w2.cell? ⟨wr.heap.size, x, none⟩ = some (.int .u8 (dat[x].toNat : Int)) := fun x hx => hK2.cellAt (Lib.cell?_alloc_marked _ (Lib.cell?_alloc_marked _ (dat_cells wr x hx))) (by rintro (h | h | h); simp at h; simp at h; omega; have := hltE _ h; simp at this; omega)
      have c8 : w2.cell? ⟨wr.heap.size + 1, 8, none⟩ = some (.slice (some ⟨g', 0, none⟩) (K + 1) cap') := hr2.cell (show 8 < 11 by omega)
      have hE2 := HE.out.later hbw2 rfl
      clear hK2 hoT hoE' hi0 b3
      go_wp2_with fail
      refine (ind_any k hk19 _).mono ?_
      rintro e w2' ⟨rfl, rfl⟩
      have HE2 : Hid (IsEnt w2' ea n ec zs) := hE2
      clear hE2
      go_wp2
      go_loopw [34, 100] (fun f i wq => ∃ x : Nat, x ≤ n ∧ f = .int .i64 (front zs (wrap64 (col - 1)) x : Int) ∧ i = .int .i64 (x : Int) ∧ w2' = wq) (fun _ i _ => n - (intOf i).toNat)
      case atStart => exact ⟨0, Nat.zero_le _, rfl, rfl, rfl⟩
      case round =>
        obtain ⟨x, hx, hf, rfl, rfl⟩ := hrel
        by_cases hxl : x < n
        · rcases HE2.out with ⟨_, h, _⟩ | ⟨_, _, h⟩ | ⟨eb, eo, rfl, hc⟩
          · omega
          · omega
          have e0 := hc x hxl
          have HF : Hid (u34 = .int .i64 (front zs (wrap64 (col - 1)) x : Int)) := hf
          clear hf hc kc
          by_cases hle : zs x ≤ wrap64 (col - 1)
          · go_wp2
            go_roundw
            case rel => exact ⟨x + 1, by omega, by rw [front, if_pos hle]; go_num, by go_num, trivial⟩
            case measure => simp [intOf]; omega
          · go_wp2
            go_roundw
            case rel => exact ⟨x + 1, by omega, by rw [front, if_neg hle]; exact HF.out, by go_num, trivial⟩
            case measure => simp [intOf]; omega
        · obtain rfl : x = n := by omega
          rw [front_keep, ← HK.out] at hf
          subst hf
          have hK0 : (0 : Int) ≤ (K : Int) := by omega
          have hK1 : (K : Int) ≤ (ec : Int) := by omega
          go_wp2_with fail
          refine (clone_any ea K ec zs _ (by omega) (HE2.out.cut hKn)).mono ?_
          rintro e w4 ⟨v4, rfl, ho4, hb4⟩
          obtain ⟨a4, cc4, rfl⟩ := own_slice ho4
          have hs4 := hb4.size
          clear hK0 hK1 hxl
          go_wp2_with (at_builtin; refine wpList_append_lies _ rfl (.tmp 114) (.tmp 116) 22 rfl w2'.heap.size 3 i0 (.int .i64 0) 1 8 Ybad.underlying22 hi hz0 hz1 hz2 rfl (by decide) (.slice a4 K cc4) K (ints zs K) rfl (ho4.alloc _) ⟨w4.heap.size, 0, none⟩ 1 1 [.int .i64 col] rfl rfl ?hnews ?h1 (by decide) ?h63 ?hbytes ?hbase (w4.heap.size + 1) ?hH ?hw)
          case hnews => exact one_new w4 _ 3
          case h1 => exact one_cell col
          case h63 => unfold maxLen; omega
          case hbytes => omega
          case hbase => simp; omega
          case hH => simp
          case hw =>
            intro g5 cap5 w5 hown hgrow hat hlt5
            have hKf : Keep (fun _ => False) w2' w5 := ((Below.toKeep (S := fun _ => False) hb4 (fun k h _ => h)).alloc _).grown hgrow (fun k hk => .inr (ho4.lt k hk).1)
            have hr5 := hKf.row hr2 (fun h => h)
            have ho5 := own_kept ho2 hKf (fun _ _ h => h)
            have hoE5 := own_kept hoE2 hKf (fun _ _ h => h)
            have hd5 : ∀ x (hx : x < 6), w5.cell? ⟨wr.heap.size, x, none⟩ = some (.int .u8 (dat[x].toNat : Int)) := fun x hx => hKf.cellAt (hd2 x hx) (fun h => h)
            have hbw5 : Below w.heap.size w w5 := hbw2.trans (hKf.below (fun _ h => h.elim) hbw2.size)
            have k8 := hKf.cellAt c8 (fun h => h)
            rw [ints_snoc] at hoE5 hown
            clear hKf hgrow hat hr2 ho2 hoE2 hd2 c8 hb4 ho4 hi hz0 hz1 hz2 hbw2
            have c8 := k8
            clear k8
            go_wp2_with fail
            refine (equal_own _ _ _ _ (K + 1) _ _ (by omega) hoE5 hown).mono ?_
            rintro e w3' ⟨rfl, q, rfl⟩
            clear hoE5 hown c8
            obtain ⟨w3, hw3⟩ : ∃ w3, w3 = w5.drewN q := ⟨_, rfl⟩
            have hbw3 : Below w.heap.size w w3 := by rw [hw3]; exact ⟨hbw5.os, hbw5.tape, hbw5.output, hbw5.size, hbw5.block⟩
            have hr3 := hr5
            change (w5.drewN q).rowIs _ _ _ _ at hr3
            have ho3 := ho5
            change (w5.drewN q).ownsRow _ _ _ _ _ _ at ho3
            rw [← hw3] at hr3 ho3
            have hd3 : ∀ x (hx : x < 6), w3.cell? ⟨wr.heap.size, x, none⟩ = some (.int .u8 (dat[x].toNat : Int)) := by rw [hw3]; exact hd5
            rw [← hw3]
            clear hw3 hbw5 hr5 ho5 hd5
            have c0 : w3.cell? ⟨wr.heap.size + 1, 0, none⟩ = some (.slice (some ⟨wr.heap.size, 0, none⟩) 6 6) := hr3.cell (show 0 < 11 by omega)
            have c1 : w3.cell? ⟨wr.heap.size + 1, 1, none⟩ = some (.int .i64 (wrap64 (pos + ((ind k).size : Int)))) := hr3.cell (show 1 < 11 by omega)
            have c2 : w3.cell? ⟨wr.heap.size + 1, 2, none⟩ = some (.int .i64 line) := hr3.cell (show 2 < 11 by omega)
            have c3 : w3.cell? ⟨wr.heap.size + 1, 3, none⟩ = some (.int .i64 3) := hr3.cell (show 3 < 11 by omega)
            have c4 : w3.cell? ⟨wr.heap.size + 1, 4, none⟩ = some (.int .i64 4) := hr3.cell (show 4 < 11 by omega)
            have c5 : w3.cell? ⟨wr.heap.size + 1, 5, none⟩ = some (.int .i64 5) := hr3.cell (show 5 < 11 by omega)
            have c6 : w3.cell? ⟨wr.heap.size + 1, 6, none⟩ = some (.bool true) := hr3.cell (show 6 < 11 by omega)
            have c7 : w3.cell? ⟨wr.heap.size + 1, 7, none⟩ = some (.int .i64 0) := hr3.cell (show 7 < 11 by omega)
            have c9 : w3.cell? ⟨wr.heap.size + 1, 9, none⟩ = some (.slice (some ⟨g, 0, none⟩) (j + 1) cap) := hr3.cell (show 9 < 11 by omega)
            have c10 : w3.cell? ⟨wr.heap.size + 1, 10, none⟩ = some (.slice none 0 0) := hr3.cell (show 10 < 11 by omega)
            have nt := neq_tok
            have hps : Hid (∀ x, x < j → w3.cell? ⟨pb, po + x, none⟩ = some (.int .i32 (ps x))) := fun x hx => cell_later hbw3 (HPC.out x hx)
            have hto : Hid _ := tok_old ho3
            have htn : Hid _ := tok_new ho3
            clear hr3 ho3
            go_wp2
            go_loopw [137] (fun i wq => ∃ x : Nat, x ≤ j ∧ i = .int .i64 (x : Int) ∧ wq = w3) (fun i _ => j - (intOf i).toNat)
            case atStart => exact ⟨0, Nat.zero_le _, rfl, rfl⟩
            case round =>
              obtain ⟨x, hx, rfl, rfl⟩ := hrel
              by_cases hxl : x < j
              · obtain rfl : pa = some ⟨pb, po, none⟩ := by
                  rcases HP.out with h | h
                  · omega
                  · exact h
                have p0 := hps.out x hxl
                obtain ⟨o0, o1, o2, o3, o4⟩ := hto.out x hxl
                clear c0 c1 c2 c3 c4 c5 c6 c7 c10 hd3 kc
                go_wp2
                go_roundw
                case rel => exact ⟨x + 1, by omega, by go_num, trivial⟩
                case measure => simp [intOf]; omega
              · obtain rfl : x = j := by omega
                obtain ⟨o0, o1, o2, o3, o4⟩ := htn.out
                have kb := dat_back _ _ hd3
                have q30 := fun (w : World) (a : Option Addr) (n c n' c' : Nat) => Lib.run_eql_slice_nil (P := Ybad.prog) w 30 5 a n c n' c' Ybad.underlying30
                clear hd3 kc
                go_wp2
                go_ret
                exact ⟨rfl, hbw3⟩
end Go.Proofs.YbulkdnauDoor
