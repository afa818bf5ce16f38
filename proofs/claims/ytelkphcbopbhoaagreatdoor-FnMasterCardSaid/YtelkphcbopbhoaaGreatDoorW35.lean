/-
  Walks: ReadMaster.
-/
import Derived.Test.YtelkphcbopbhoaaGreatDoorW34
import Derived.Test.YtelkphcbopbhoaaGreatDoorW32
namespace Go.Proofs.YtelkphcbopbhoaaGreatDoor
open Go Go.RowKit

set_option maxRecDepth 100000 in
set_option maxHeartbeats 4000000 in
theorem read_any {strict : Bool} {w : World} (T : Bs) (ls : List Bs) (s' : DSt) (hT : T = unlines ls) (hT0 : T ≠ []) (hTl : T.length ≤ 8192) (hasc : ∀ c ∈ T, c.toNat < 128) (hno : ∀ p ∈ (pieces T).map Lib.trimSpace, p.length ≤ 8192 ∧ tKEY.isPrefixOf p = false ∧ tMAP.isPrefixOf p = false)
    (hR : Reads ⟨3, false, false, false, [], []⟩ ls s') (hinf : s'.inf = false) (hm3u : s'.m3u = true) (hvl : s'.vs.length ≤ 1000) (hal : s'.ats.length ≤ 1000) (hg : ∀ a ∈ s'.ats, a.Good) (hver : s'.ver ≤ 200) (hE : Env w) (h1 : 1 < w.heap.size) :
    Calls Tryz.prog 5 #[.string (S T), .bool strict] w fun e w' => ∃ r, e = .returned (.tuple #[.agg (mCells r s'.ver s'.ind).toArray, .bool true]) ∧ MRow w' w.heap.size r s'.vs s'.ats ∧ Below w.heap.size w w' := by
  have H := Lib.hid (And.intro hT (And.intro hasc (And.intro hno (And.intro hR (And.intro hg hE)))))
  clear hT hasc hno hR hg hE
  go_enter Tryz.func5, Tryz.ntmps5
  go_upto_region 1 with fail
  obtain ⟨w1, hw1⟩ : ∃ w1, w1 = w.alloc (.cells #[.slice none 0 0, .string ⟨#[]⟩, .int .i64 0, .bool false] 31) := ⟨_, rfl⟩
  rw [← hw1]
  have hB1 : Below w.heap.size w w1 := by rw [hw1]; exact (Below.refl _ _).alloc (Nat.le_refl _) _
  have hQ1 : Box w1 w.heap.size 31 [.slice none 0 0, .string ⟨#[]⟩, .int .i64 0, .bool false] := by rw [hw1]; exact Box.new rfl
  have hs1 : w1.heap.size = w.heap.size + 1 := by rw [hw1]; simp
  have HB1 := Lib.hid (And.intro hB1 hQ1)
  clear hw1 hB1 hQ1
  go_upto_region 3 with (go_at_call 12; refine (readable_any T w1 hTl H.out.2.1 (H.out.2.2.2.2.2.below HB1.out.1).tabB H.out.2.2.1).mono ?_; rintro e w2 ⟨rfl, hb2⟩)
  have hb12 := hb2
  have HB2 : Hid (Below w.heap.size w w2 ∧ Box w2 w.heap.size 31 [.slice none 0 0, .string ⟨#[]⟩, .int .i64 0, .bool false]) := ⟨HB1.out.1.trans (hb2.mono HB1.out.1.size), HB1.out.2.below hb2⟩
  clear hb2
  go_upto_region 4 with (go_at_call 13; refine (newMpl_any _).mono ?_; rintro e w3 ⟨rfl, hP, hb3⟩)
  have HB3 : Hid (Below w.heap.size w w3 ∧ Box w3 w.heap.size 31 [.slice none 0 0, .string ⟨#[]⟩, .int .i64 0, .bool false]) := ⟨HB2.out.1.trans (hb3.mono HB2.out.1.size), HB2.out.2.below hb3⟩
  obtain ⟨P, hPe⟩ : ∃ P, P = w2.heap.size := ⟨_, rfl⟩
  rw [← hPe] at hP ⊢
  have h0P : w1.heap.size ≤ P := by rw [hPe]; exact hb12.size
  have HB13 : Hid (Below w1.heap.size w1 w3) := hb12.trans (hb3.mono hb12.size)
  have HP := Lib.hid hP
  clear hP hb3 hPe hb12
  have hcv := Lib.run_convert_string_bytes (P := Tryz.prog) w3 9 55 5 (S T) Tryz.underlying9 Tryz.underlying55 Tryz.underlying5
  have hcc := grownCap_ge w3 (S T).size 0 5
  have hcm := grownCap_le_maxLen w3 (S T).size 0 5 (by show T.length ≤ _; unfold maxLen; omega)
  have hpb := bytes_new w3 (S T)
  have hbw := below_bytes w3 5 (S T)
  obtain ⟨wb, hwb⟩ : ∃ wb, wb = Lib.bytesWorld w3 5 (S T) := ⟨_, rfl⟩
  rw [← hwb] at hcv hpb hbw
  obtain ⟨cp, hcp⟩ : ∃ cp, cp = grownCap w3 (S T).size 0 5 := ⟨_, rfl⟩
  rw [← hcp] at hcv hcc hcm
  clear hwb hcp
  have hst : (S T).size = T.length := rfl
  have hT1 : 0 < T.length := List.length_pos_iff.2 hT0
  have hcell : ∀ j, j < T.length → wb.cell? ⟨w3.heap.size, j, none⟩ = some (.int .u8 (T.getD j 0).toNat) := by
    intro j hj
    have hj' : j < (S T).size := hj
    have h := hpb j hj'
    have h2 := ba_get (S T) j hj' (by rw [ba_size]; exact hj')
    have e : (S T)[j] = T.getD j 0 := by
      rw [h2]
      simp [List.getD, S_list, hj]
    rw [Nat.zero_add] at h
    rw [h, e]
  have hbl : w3.heap.size < wb.heap.size := World.block_lt_of_cell? _ _ (hcell 0 hT1)
  obtain ⟨w5, hw5⟩ : ∃ w5, w5 = wb.alloc (.cells #[.slice (some ⟨w3.heap.size, 0, none⟩) (S T).size cp, .int .i64 0, .int .i64 (-1)] 85) := ⟨_, rfl⟩
  have hb5 : Below w3.heap.size w3 w5 := by rw [hw5]; exact hbw.alloc hbw.size _
  have hs5 : Hid (∀ j, j < T.length → w5.cell? ⟨w3.heap.size, j, none⟩ = some (.int .u8 (T.getD j 0).toNat)) := fun j hj => by rw [hw5]; exact cell_below (hcell j hj) ((Below.refl _ _).alloc (Nat.le_refl _) _) (Nat.le_refl _)
  have hR5 : Box w5 wb.heap.size 85 [.slice (some ⟨w3.heap.size, 0, none⟩) T.length cp, .int .i64 0, .int .i64 (-1)] := by rw [hw5]; exact Box.new rfl
  have hP5 : Box w5 P 77 (mplCells nilS 3 false) := HP.out.below hb5
  have hE5 : EnvAt w1.heap.size w5 := ⟨w1, rfl, H.out.2.2.2.2.2.below HB1.out.1, HB13.out.trans (hb5.mono HB13.out.size)⟩
  have hQ5 := HB3.out.2.below hb5
  have hPlt : P < w3.heap.size := HP.out.lt
  have h35 := HB3.out.1.size
  have h13 := HB13.out.size
  have hB5 : Below w.heap.size w w5 := HB3.out.1.trans (hb5.mono HB3.out.1.size)
  have H5 := Lib.hid (And.intro hR5 (And.intro hP5 (And.intro hE5 (And.intro hQ5 hB5))))
  have HW5 := Lib.hid hw5
  clear hB5 hw5 hcell hpb hbw hb5 hR5 hP5 hE5 hQ5 hst
  go_upto_region 5 with (first
    | (go_at_call 15; refine (newReader_any _ _ ⟨_, _, _, rfl⟩).mono ?_; rintro e w6 ⟨rfl, rfl⟩; rw [← HW5.out])
    | (go_at_call 14; refine (decodeFrom_any (strict := strict) T ls s' H.out.1 hT0 (by omega) H.out.2.2.2.1 hinf hm3u hvl hal H.out.2.2.2.2.1 H5.out.2.1 H5.out.1 hcc (by unfold maxLen at hcm; omega) hs5 (by omega) (by omega) (by have := H5.out.1.lt; omega) H5.out.2.2.1 h0P (by omega) (by omega)).mono ?_; rintro e w6 ⟨rfl, hAD, hC6⟩))
  obtain ⟨B, vv, va, vbs, abs, hA⟩ := hAD
  have hvb : vbs.length ≤ 1000 := by rw [← hA.len]; exact hvl
  have hQ6 := H5.out.2.2.2.1.chg hC6 (by omega)
  have hB6 : Below w.heap.size w w6 := H5.out.2.2.2.2.trans (hC6.toBelow H5.out.2.2.2.2.size (fun i hi => by omega))
  have H6 := Lib.hid (And.intro hA (And.intro hQ6 hB6))
  clear hA hQ6 hB6 hC6
  go_upto_region 7 with fail
  go_wp2_with (go_at_call 16; refine (mof_any H6.out.1 hver hvb hal).mono ?_; rintro e w7 ⟨r, rfl, hMR, hB7⟩; have hQ7 := H6.out.2.1.below hB7; have r0 := hQ7.cell 0 rfl; have r1 := hQ7.cell 1 rfl; have r2 := hQ7.cell 2 rfl; have r3 := hQ7.cell 3 rfl; have f0 := hQ7.frozen 0; have f1 := hQ7.frozen 1; have f2 := hQ7.frozen 2; have f3 := hQ7.frozen 3; obtain ⟨A9, c9, rfl⟩ : ∃ A c, r = .slice A s'.vs.length c := (by obtain ⟨als, _, hrv, _⟩ := hMR; exact own_shape hrv); have HM := Lib.hid (And.intro hMR (And.intro hB7 hQ7)); clear hMR hB7 hQ7; unfold mCells)
  have hz := sets_box (mCells (.slice A9 s'.vs.length c9) s'.ver s'.ind) 0 w7 _ HM.out.2.2
  rw [setl_eq _ _ _ (by rfl)] at hz
  have hc := sets_chg w.heap.size (mCells (.slice A9 s'.vs.length c9) s'.ver s'.ind) 0 w7
  change bodyPost _ _ _ _ _ (sets w.heap.size 0 (mCells (.slice A9 s'.vs.length c9) s'.ver s'.ind) w7)
  generalize sets w.heap.size 0 (mCells (.slice A9 s'.vs.length c9) s'.ver s'.ind) w7 = wz at hz hc ⊢
  have h6 := H6.out.2.2.size
  have h6Q : w.heap.size < w6.heap.size := H6.out.2.1.lt
  have hMz : MRow wz w6.heap.size (.slice A9 s'.vs.length c9) s'.vs s'.ats := by
    obtain ⟨als, h1, h2, h3⟩ := HM.out.1
    exact ⟨als, h1, own_chg h2 hc (fun i hi e => by have := (World.ownsRow.lt h2 i hi).1; omega), fun i v al e1 e2 => own_chg (h3 i v al e1 e2) hc (fun j hj e => by have := (World.ownsRow.lt (h3 i v al e1 e2) j hj).1; omega)⟩
  have hBz : Below w.heap.size w wz := (H6.out.2.2.trans (HM.out.2.1.mono h6)).trans (hc.toBelow (Nat.le_trans h6 HM.out.2.1.size) (fun i hi => by omega))
  have z0 := hz.cell 0 rfl
  have z1 := hz.cell 1 rfl
  have z2 := hz.cell 2 rfl
  have z3 := hz.cell 3 rfl
  have HZ := Lib.hid (And.intro hMz hBz)
  clear hMz hBz hz hc r0 r1 r2 r3 f0 f1 f2 f3 HM
  (try simp only [Exit.inBlock, Exit.then])
  refine bodyPost_ret (by simp [results, Tryz.results5, go_sem, z0, z1, z2, z3]; try rfl) rfl ?_
  exact ⟨_, rfl, HZ.out.1.mono h6, HZ.out.2⟩
end Go.Proofs.YtelkphcbopbhoaaGreatDoor
