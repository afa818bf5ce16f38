/-
  Walks: FnMaster.
-/
import Derived.Test.YtelkphcbopbhoaaGreatDoorW35
import Derived.Test.YtelkphcbopbhoaaGreatDoorW36
import Derived.Test.YtelkphcbopbhoaaGreatDoorW37
namespace Go.Proofs.YtelkphcbopbhoaaGreatDoor
open Go Go.RowKit

theorem read_written {ver : Nat} {ind strict : Bool} {alts : List Alt} {vrts : List Vrt} {la lv : List Bs} (T : Bs) (hT : T = unlines (headLines ver ind ++ la ++ lv)) (hver : ver < 8) (hal : alts.length ≤ 4) (hvl : vrts.length ≤ 4) (hag : ∀ a ∈ alts, a.Good) (hvg : ∀ v ∈ vrts, v.Good)
    (hla : Cat AltLines alts la) (hlv : Cat VrtLines vrts lv) (w : World) (hE : Env w) (h1 : 1 < w.heap.size) :
    Calls Tryz.prog 5 #[.string (S T), .bool strict] w fun e w' => ∃ r, e = .returned (.tuple #[.agg (mCells r ver ind).toArray, .bool true]) ∧ MRow w' w.heap.size r vrts alts ∧ Below w.heap.size w w' := by
  have hlen := text_len (ind := ind) hver hla hlv hag hvg hal hvl
  have hf := text_fine (fine_all (ver := ver) (ind := ind) hla hlv hag hvg) hlen
  have hR := reads_all (ind := ind) hver hla hlv hag hvg hal hvl
  refine read_any (strict := strict) T (headLines ver ind ++ la ++ lv) ⟨ver, ind, true, false, vrts, alts⟩ hT ?_ ?_ ?_ ?_ hR rfl rfl ?_ ?_ hag ?_ hE h1
  · rw [hT]
    unfold headLines
    simp [unlines]
  · rw [hT]; exact hlen
  · rw [hT]; exact hf.1
  · rw [hT]; exact hf.2
  · show vrts.length ≤ 1000; omega
  · show alts.length ≤ 1000; omega
  · show ver ≤ 200; omega

set_option maxRecDepth 100000 in
set_option maxHeartbeats 4000000 in
theorem fn_master (A : Option Addr) (n c N : Nat) (mix strict : Bool) (w : World) (hN : N < 4294967296) (hn : n ≤ 9223372036854775807) (hu : n ≤ 100 → U32s w A n) (hE : Env w) (h1 : 1 < w.heap.size) :
    Calls Tryz.prog 3 #[.slice A n c, .int .u32 N, .bool mix, .bool strict] w fun e w' => e = .returned (.bool true) ∧ Below w.heap.size w w' := by
  by_cases hbig : n ≤ 100
  · have hn2 : (n : Int) ≤ 100 := by omega
    have HE := Lib.hid (And.intro hE (hu hbig))
    clear hE hu
    go_enter Tryz.func3, Tryz.ntmps3
    go_upto_region 6 with (go_at_call 4; refine (master_any A n c N w hbig hN HE.out.2).mono ?_; rintro e w1 ⟨va, vv, alts, vrts, ver, ind, rfl, hA, hV, hrest⟩; obtain ⟨A1, c1, rfl⟩ := own_shape hA; obtain ⟨A2, c2, rfl⟩ := own_shape hV; unfold mstCells)
    obtain ⟨w2, hw2⟩ : ∃ w2, w2 = w1.alloc (.cells #[.int .i64 ver, .bool ind, .slice A1 alts.length c1, .slice A2 vrts.length c2] 27) := ⟨_, rfl⟩
    rw [← hw2]
    obtain ⟨M, hM⟩ : ∃ M, M = w1.heap.size := ⟨_, rfl⟩
    rw [← hM]
    have hB2 : Below w1.heap.size w1 w2 := by rw [hw2]; exact (Below.refl _ _).alloc (Nat.le_refl _) _
    have hM2 : Box w2 M 27 [.int .i64 ver, .bool ind, .slice A1 alts.length c1, .slice A2 vrts.length c2] := by rw [hw2]; exact Box.new hM
    have hBw := hrest.2.2.2.2.2
    have hB02 : Below w.heap.size w w2 := hBw.trans (hB2.mono hBw.size)
    have H2 := Lib.hid (And.intro (row_below hA hB2 : ARow w2 w.heap.size _ alts) (And.intro (row_below hV hB2 : VRow w2 w.heap.size _ vrts) (And.intro hrest (And.intro hM2 hB02))))
    have m0 := hM2.cell 0 rfl
    have m1 := hM2.cell 1 rfl
    have m2 := hM2.cell 2 rfl
    have m3 := hM2.cell 3 rfl
    clear hA hV hrest hw2 hM hB2 hM2 hBw hB02
    have hN0 : (0 : Int) ≤ (N : Int) := by omega
    have hN1 : (N : Int) < 4294967296 := by omega
    have c6 := write_any ver ind mix (.slice A1 alts.length c1) (.slice A2 vrts.length c2) (N : Int) alts vrts w.heap.size w2 H2.out.2.2.1.1 H2.out.1 H2.out.2.1 H2.out.2.2.1.2.1 H2.out.2.2.1.2.2.1 H2.out.2.2.1.2.2.2.1 H2.out.2.2.1.2.2.2.2.1 hN0 hN1
    unfold mstCells at c6
    have C6 := Lib.hid c6
    clear c6
    go_upto_region 7 with (first
      | (go_at_call 6; refine C6.out.mono ?_; rintro e w3 ⟨la, lv, rfl, hla, hlv, hb3⟩; obtain ⟨T, hT⟩ : ∃ T, T = unlines (headLines ver ind ++ la ++ lv) := ⟨_, rfl⟩; rw [← hT]; have C5 := Lib.hid (read_written (strict := strict) T hT H2.out.2.2.1.1 H2.out.2.2.1.2.1 H2.out.2.2.1.2.2.1 H2.out.2.2.1.2.2.2.1 H2.out.2.2.1.2.2.2.2.1 hla hlv w3 (HE.out.1.below (H2.out.2.2.2.2.trans (hb3.mono H2.out.2.2.2.2.size))) (by have := H2.out.2.2.2.2.size; have := hb3.size; omega)); have HF3 := Lib.hid hb3; clear hla hlv hT hb3)
      | (go_at_call 5; refine C5.out.mono ?_; rintro e w4 ⟨r, rfl, hMR, hb4⟩; obtain ⟨A4, c4, rfl⟩ : ∃ A c, r = .slice A vrts.length c := (by obtain ⟨als, _, hrv, _⟩ := hMR; exact own_shape hrv); unfold mCells; have HM4 := Lib.hid (And.intro hMR hb4); clear hMR hb4))
    have hb5 : Below w4.heap.size w4 (w4.alloc (.cells #[.slice A4 vrts.length c4, .string ⟨#[]⟩, .int .i64 ver, .bool ind] 31)) := (Below.refl _ _).alloc (Nat.le_refl _) _
    have hX5 : Box (w4.alloc (.cells #[.slice A4 vrts.length c4, .string ⟨#[]⟩, .int .i64 ver, .bool ind] 31)) w4.heap.size 31 [.slice A4 vrts.length c4, .string ⟨#[]⟩, .int .i64 ver, .bool ind] := Box.new rfl
    generalize w4.alloc (.cells #[.slice A4 vrts.length c4, .string ⟨#[]⟩, .int .i64 ver, .bool ind] 31) = w5 at hb5 hX5 ⊢
    have hb35 : Below w3.heap.size w3 w5 := HM4.out.2.trans (hb5.mono HM4.out.2.size)
    have hb25 : Below w2.heap.size w2 w5 := HF3.out.trans (hb35.mono HF3.out.size)
    have hb05 : Below w.heap.size w w5 := H2.out.2.2.2.2.trans (hb25.mono H2.out.2.2.2.2.size)
    have hM5 := H2.out.2.2.2.1.below hb25
    have hMR5 : MRow w5 w3.heap.size (.slice A4 vrts.length c4) vrts alts := by
      obtain ⟨als, h1, h2, h3⟩ := HM4.out.1
      exact ⟨als, h1, row_below h2 hb5, fun i v al e1 e2 => row_below (h3 i v al e1 e2) hb5⟩
    have c7 := same_any ver ind (.slice A1 alts.length c1) (.slice A2 vrts.length c2) (.slice A4 vrts.length c4) alts vrts w.heap.size w3.heap.size w5 (row_below H2.out.1 hb25) (row_below H2.out.2.1 hb25) hMR5 H2.out.2.2.1.2.1 H2.out.2.2.1.2.2.1 H2.out.2.2.1.2.2.2.2.1 H2.out.2.2.1.1
    unfold mCells mstCells at c7
    have C7 := Lib.hid (And.intro c7 hb05)
    clear c7 m0 m1 m2 m3
    have m0 := hM5.cell 0 rfl
    have m1 := hM5.cell 1 rfl
    have m2 := hM5.cell 2 rfl
    have m3 := hM5.cell 3 rfl
    have x0 := hX5.cell 0 rfl
    have x1 := hX5.cell 1 rfl
    have x2 := hX5.cell 2 rfl
    have x3 := hX5.cell 3 rfl
    clear hb5 hX5 hb35 hb25 hb05 hM5 hMR5
    go_wp2_with (go_at_call 7; refine C7.out.1.mono ?_; rintro e w6 ⟨rfl, hb6⟩; have HB6 := Lib.hid hb6; clear hb6)
    go_ret
    exact ⟨rfl, C7.out.2.trans (HB6.out.mono C7.out.2.size)⟩
  · have hn2 : (100 : Int) < (n : Int) := by omega
    go_enter Tryz.func3, Tryz.ntmps3
    by_cases hbig2 : (2147483647 : Int) < (n : Int)
    · go_wp2_with fail
      go_ret
      exact ⟨rfl, Below.refl _ _⟩
    · go_wp2_with fail
      go_ret
      exact ⟨rfl, Below.refl _ _⟩
end Go.Proofs.YtelkphcbopbhoaaGreatDoor
