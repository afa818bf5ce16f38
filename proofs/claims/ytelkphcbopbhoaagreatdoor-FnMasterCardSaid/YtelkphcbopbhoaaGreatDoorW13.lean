/-
  Walks: Of.
-/
import Derived.Test.YtelkphcbopbhoaaGreatDoorW12
namespace Go.Proofs.YtelkphcbopbhoaaGreatDoor
open Go Go.RowKit

/-- Whether a rendition is one of a variant's. -/
def Vrt.has (v : Vrt) (a : Alt) : Bool := (a.type == kAUDIO && v.audio == a.group) || (a.type == kVIDEO && v.video == a.group) || (a.type == kSUBS && v.subs == a.group)

set_option maxHeartbeats 8000000 in
set_option maxRecDepth 100000 in
theorem of_any (ver : Nat) (ind : Bool) (va vv : Value) (alts : List Alt) (v : Vrt) (b : Nat) (w : World) (ha : ARow w b va alts) (hal : alts.length ≤ 4) (hvv : ∃ A n c, vv = .slice A n c) :
    Calls Tryz.prog 22 #[.agg (mstCells ver ind va vv).toArray, vrtVal v] w fun e w' => ∃ r, e = .returned r ∧ ARow w' w.heap.size r (alts.filter v.has) ∧ Below w.heap.size w w' := by
  obtain ⟨A, c, rfl⟩ := own_shape ha
  obtain ⟨A2, n2, c2, rfl⟩ := hvv
  have hAlt : ∀ i, (Value.slice A alts.length c).ownBlock = some i → i < w.heap.size := fun i hi => (World.ownsRow.lt ha i hi).2
  have hali : (alts.length : Int) ≤ 4 := by omega
  unfold mstCells vrtVal vrtCells
  go_enter Tryz.func22, Tryz.ntmps22
  go_upto_region 1 with fail
  obtain ⟨w0, hw0⟩ : ∃ w0, w0 = (w.alloc (.cells #[.int .i64 ver, .bool ind, .slice A alts.length c, .slice A2 n2 c2] 27)).alloc (.cells (vrtCells v).toArray 46) := ⟨_, rfl⟩
  have hw0' := hw0
  simp only [vrtCells] at hw0'
  rw [← hw0']
  clear hw0'
  have hb1 : Box w0 w.heap.size 27 [.int .i64 ver, .bool ind, .slice A alts.length c, .slice A2 n2 c2] := by
    have h0 : Box (w.alloc (.cells #[.int .i64 ver, .bool ind, .slice A alts.length c, .slice A2 n2 c2] 27)) w.heap.size 27 [.int .i64 ver, .bool ind, .slice A alts.length c, .slice A2 n2 c2] := Box.new rfl
    rw [hw0]; exact h0.alloc _
  have hb2 : Box w0 (w.heap.size + 1) 46 (vrtCells v) := by rw [hw0]; exact Box.new (by simp)
  have hbel : Hid (Below w.heap.size w w0) := by show Below _ _ _; rw [hw0]; exact ((Below.refl _ _).alloc (Nat.le_refl _) _).alloc (by simp) _
  have hsz : w.heap.size + 2 ≤ w0.heap.size := by rw [hw0]; simp
  have hA0 : Hid (ARow w0 b (.slice A alts.length c) alts) := by show ARow _ _ _ _; rw [hw0]; exact (ha.alloc _).alloc _
  clear hw0 ha
  have HB2 := Lib.hid hb2
  go_upto_region 2 with fail
  obtain ⟨w1, hw1⟩ : ∃ w1, w1 = w0.alloc (.cells #[] 44) := ⟨_, rfl⟩
  rw [← hw1]
  have x2 : w1.cell? ⟨w.heap.size, 2, none⟩ = some (.slice A alts.length c) := by rw [hw1]; exact (hb1.alloc _).cell 2 rfl
  have hB2 : Hid (Box w1 (w.heap.size + 1) 46 (vrtCells v)) := by show Box _ _ _ _; rw [hw1]; exact hb2.alloc _
  have hr0 : ARow w1 (w.heap.size + 2) (.slice (some ⟨w0.heap.size, 0, none⟩) 0 0) [] := by rw [hw1]; exact World.ownsRow_lit w0 #[] 0 hsz (by unfold maxLen; omega) rfl
  have hA1 : Hid (ARow w1 b (.slice A alts.length c) alts) := by show ARow _ _ _ _; rw [hw1]; exact hA0.out.alloc _
  have hbel1 : Hid (Below w.heap.size w w1) := by show Below _ _ _; rw [hw1]; exact hbel.out.alloc (by omega) _
  have hsz1 : w.heap.size + 2 < w1.heap.size := by rw [hw1]; simp; omega
  clear hw1 hb1 hb2 HB2 hA0 hbel hsz
  go_wp2_with fail
  go_loopg [5, 12] alts.length (fun gk s a wr => ∃ (k : Nat), k + gk = alts.length ∧ a = .int .i64 k ∧ Hid (ARow wr (w.heap.size + 2) s ((alts.take k).filter v.has)) ∧ Hid (Below (w.heap.size + 2) w1 wr))
  case atStart => exact ⟨0, by omega, rfl, hr0, Below.refl _ _⟩
  case round =>
    clear hr0 x2
    obtain ⟨k, hk, rfl, hrow, hbel⟩ := hrel
    by_cases hlt : k < alts.length
    · have hlt' : (k : Int) < (alts.length : Int) := by omega
      have hchg : Chg (fun i => w.heap.size + 2 ≤ i) w1 wr := ⟨hbel.out.os, hbel.out.tape, hbel.out.output, hbel.out.size, fun i _ hi => hbel.out.block i (by omega)⟩
      have hAr : ARow wr b (.slice A alts.length c) alts := own_chg hA1.out hchg (fun i hi hs => by have := hAlt i hi; omega)
      have hBr : Box wr (w.heap.size + 1) 46 (vrtCells v) := hB2.out.chg hchg (by omega)
      obtain ⟨g, cap, hv, hg1, hg2⟩ := World.ownsRow.form hAr (by omega)
      cases hv
      obtain ⟨x, hx⟩ : ∃ x, x = alts[k] := ⟨_, rfl⟩
      have hcel : ∀ (j : Nat) (u : Value), j < 7 → (altCells x)[j]? = some u → wr.cell? ⟨g, k * 7 + j, none⟩ = some u := fun j u hj hu => hAr.cell rfl k j hlt hj (by rw [← hx]; exact hu)
      have y0 := hcel 0 _ (by omega) rfl
      have y1 := hcel 1 _ (by omega) rfl
      have y2 := hcel 2 _ (by omega) rfl
      have y3 := hcel 3 _ (by omega) rfl
      have y4 := hcel 4 _ (by omega) rfl
      have y5 := hcel 5 _ (by omega) rfl
      have y6 := hcel 6 _ (by omega) rfl
      rw [Nat.add_zero] at y0
      have HX := Lib.hid hx
      clear hx hcel hAr hchg
      go_upto_region 5 with fail
      clear y0 y1 y2 y3 y4 y5 y6
      obtain ⟨w2, hw2⟩ : ∃ w2, w2 = wr.alloc (.cells (altCells x).toArray 44) := ⟨_, rfl⟩
      have hw2' := hw2
      simp only [altCells] at hw2'
      rw [← hw2']
      clear hw2'
      have hBr2 : Box w2 (w.heap.size + 1) 46 (vrtCells v) := by rw [hw2]; exact hBr.alloc _
      have hBx2 : Box w2 wr.heap.size 44 (altCells x) := by rw [hw2]; exact Box.new rfl
      have hrow2 : Hid (ARow w2 (w.heap.size + 2) u5 ((alts.take k).filter v.has)) := by show ARow _ _ _ _; rw [hw2]; exact hrow.out.alloc _
      have hbel2 : Hid (Below (w.heap.size + 2) w1 w2) := by show Below _ _ _; rw [hw2]; exact hbel.out.alloc (by have := hbel.out.size; omega) _
      have z7 := hBr2.cell 7 rfl
      have z8 := hBr2.cell 8 rfl
      have z9 := hBr2.cell 9 rfl
      have y0 := hBx2.cell 0 rfl
      have y1 := hBx2.cell 1 rfl
      have y2 := hBx2.cell 2 rfl
      have y3 := hBx2.cell 3 rfl
      have y4 := hBx2.cell 4 rfl
      have y5 := hBx2.cell 5 rfl
      have y6 := hBx2.cell 6 rfl
      clear hw2 hBr hBr2 hBx2
      go_cut [16] from 14 to 51 (fun s wx => s = .bool (x.type == kAUDIO && v.audio == x.group) ∧ wx = w2)
      case first =>
        have t1 : ((S x.type).toList == ([65, 85, 68, 73, 79] : List UInt8)) = (x.type == kAUDIO) := by rw [ba_toList, S_list]; rfl
        have t2 : ((S v.audio).toList == (S x.group).toList) = (v.audio == x.group) := by rw [ba_toList, ba_toList]; rfl
        cases e1 : (x.type == kAUDIO)
        · rw [e1] at t1
          go_wp2_with fail
          go_meet
          case rel => exact ⟨by rw [e1]; rfl, rfl⟩
        · rw [e1] at t1
          go_wp2_with fail
          go_meet
          case rel => exact ⟨by first | (rw [e1, t2]; rfl) | (rw [e1]; rfl), rfl⟩
      case rest =>
      obtain ⟨rfl, hwc⟩ := hcut
      rw [hwc]
      clear hwc wc
      have hfl : ((alts.take k).filter v.has).length ≤ 4 := by
        have := List.length_filter_le v.has (alts.take k)
        simp at this
        omega
      obtain ⟨i0, hi0, hz, hz1, hz2⟩ := info_parts Tryz.info44
      have HI0 := Lib.hid (And.intro hi0 (And.intro hz (And.intro hz1 hz2)))
      clear hi0 hz hz1 hz2
      obtain ⟨b5, hb5⟩ : ∃ b5, (x.type == kAUDIO && v.audio == x.group) = b5 := ⟨_, rfl⟩
      rw [hb5]
      have HB5 := Lib.hid hb5
      clear hb5
      cases b5 with
      | true =>
        have HAS : Hid ((alts.take (k + 1)).filter v.has = (alts.take k).filter v.has ++ [x]) := by
          show _ = _
          rw [List.take_succ_eq_append_getElem hlt, List.filter_append, ← HX.out]
          have : v.has x = true := by simp only [Vrt.has, HB5.out, Bool.true_or]
          simp [this]
        go_wp2_with (at_builtin; go_loud (refine wpList_append_lies _ rfl _ _ 24 rfl (w.heap.size + 2) 44 i0 altZero 7 104 Tryz.underlying24 HI0.out.1 HI0.out.2.1 HI0.out.2.2.1 HI0.out.2.2.2 rfl (by decide) u5 ((alts.take k).filter v.has).length (((alts.take k).filter v.has).flatMap altCells) rfl (hrow2.out.alloc _) ⟨w2.heap.size, 0, none⟩ 1 1 (altCells x) rfl rfl (World.news_of_block (t := 44) (fr := (0, 0)) (heap_alloc_new _ _)) (altCells_one x) (by omega) (by unfold maxLen; omega) (by omega) (by have := hbel2.out.size; simp; omega) _ rfl ?_); intro g2 cap w5 hown1 hgrow1 _ _)
        have R1 : Hid (ARow w5 (w.heap.size + 2) (.slice (some ⟨g2, 0, none⟩) (((alts.take k).filter v.has).length + 1) cap) ((alts.take (k + 1)).filter v.has)) := by
          show ARow _ _ _ _
          rw [HAS.out]
          unfold ARow
          rw [List.length_append, List.flatMap_append]
          simpa using hown1
        have R2 : Hid (Below (w.heap.size + 2) w1 w5) := (hbel2.out.alloc (by have := hbel2.out.size; omega) _).grown hgrow1 (by have := hbel2.out.size; simp; omega) (fun i hi => (World.ownsRow.lt hrow2.out i hi).1)
        clear hown1 hgrow1
        go_roundg (gk - 1)
        case measure => omega
        case rel => exact ⟨k + 1, by omega, by go_num, R1.out, R2.out⟩
      | false =>
        go_upto_region 6 with fail
        go_cut [16] from 14 to 51 (fun s wx => s = .bool (x.type == kVIDEO && v.video == x.group) ∧ wx = w2)
        case first =>
          have t1 : ((S x.type).toList == ([86, 73, 68, 69, 79] : List UInt8)) = (x.type == kVIDEO) := by rw [ba_toList, S_list]; rfl
          have t2 : ((S v.video).toList == (S x.group).toList) = (v.video == x.group) := by rw [ba_toList, ba_toList]; rfl
          cases e1 : (x.type == kVIDEO)
          · rw [e1] at t1
            go_wp2_with fail
            go_meet
            case rel => exact ⟨by rw [e1]; rfl, rfl⟩
          · rw [e1] at t1
            go_wp2_with fail
            go_meet
            case rel => exact ⟨by first | (rw [e1, t2]; rfl) | (rw [e1]; rfl), rfl⟩
        case rest =>
        obtain ⟨rfl, hwc⟩ := hcut
        rw [hwc]
        clear hwc wc
        obtain ⟨b6, hb6⟩ : ∃ b6, (x.type == kVIDEO && v.video == x.group) = b6 := ⟨_, rfl⟩
        rw [hb6]
        have HB6 := Lib.hid hb6
        clear hb6
        cases b6 with
        | true =>
          have HAS : Hid ((alts.take (k + 1)).filter v.has = (alts.take k).filter v.has ++ [x]) := by
            show _ = _
            rw [List.take_succ_eq_append_getElem hlt, List.filter_append, ← HX.out]
            have : v.has x = true := by simp only [Vrt.has, HB5.out, HB6.out, Bool.true_or, Bool.or_true]
            simp [this]
          go_wp2_with (at_builtin; go_loud (refine wpList_append_lies _ rfl _ _ 24 rfl (w.heap.size + 2) 44 i0 altZero 7 104 Tryz.underlying24 HI0.out.1 HI0.out.2.1 HI0.out.2.2.1 HI0.out.2.2.2 rfl (by decide) u5 ((alts.take k).filter v.has).length (((alts.take k).filter v.has).flatMap altCells) rfl (hrow2.out.alloc _) ⟨w2.heap.size, 0, none⟩ 1 1 (altCells x) rfl rfl (World.news_of_block (t := 44) (fr := (0, 0)) (heap_alloc_new _ _)) (altCells_one x) (by omega) (by unfold maxLen; omega) (by omega) (by have := hbel2.out.size; simp; omega) _ rfl ?_); intro g2 cap w5 hown1 hgrow1 _ _)
          have R1 : Hid (ARow w5 (w.heap.size + 2) (.slice (some ⟨g2, 0, none⟩) (((alts.take k).filter v.has).length + 1) cap) ((alts.take (k + 1)).filter v.has)) := by
            show ARow _ _ _ _
            rw [HAS.out]
            unfold ARow
            rw [List.length_append, List.flatMap_append]
            simpa using hown1
          have R2 : Hid (Below (w.heap.size + 2) w1 w5) := (hbel2.out.alloc (by have := hbel2.out.size; omega) _).grown hgrow1 (by have := hbel2.out.size; simp; omega) (fun i hi => (World.ownsRow.lt hrow2.out i hi).1)
          clear hown1 hgrow1
          go_roundg (gk - 1)
          case measure => omega
          case rel => exact ⟨k + 1, by omega, by go_num, R1.out, R2.out⟩
        | false =>
          go_upto_region 7 with fail
          go_cut [16] from 14 to 51 (fun s wx => s = .bool (x.type == kSUBS && v.subs == x.group) ∧ wx = w2)
          case first =>
            have t1 : ((S x.type).toList == ([83, 85, 66, 84, 73, 84, 76, 69, 83] : List UInt8)) = (x.type == kSUBS) := by rw [ba_toList, S_list]; rfl
            have t2 : ((S v.subs).toList == (S x.group).toList) = (v.subs == x.group) := by rw [ba_toList, ba_toList]; rfl
            cases e1 : (x.type == kSUBS)
            · rw [e1] at t1
              go_wp2_with fail
              go_meet
              case rel => exact ⟨by rw [e1]; rfl, rfl⟩
            · rw [e1] at t1
              go_wp2_with fail
              go_meet
              case rel => exact ⟨by first | (rw [e1, t2]; rfl) | (rw [e1]; rfl), rfl⟩
          case rest =>
          obtain ⟨rfl, hwc⟩ := hcut
          rw [hwc]
          clear hwc wc
          obtain ⟨b7, hb7⟩ : ∃ b7, (x.type == kSUBS && v.subs == x.group) = b7 := ⟨_, rfl⟩
          rw [hb7]
          have HB7 := Lib.hid hb7
          clear hb7
          cases b7 with
          | true =>
            have HAS : Hid ((alts.take (k + 1)).filter v.has = (alts.take k).filter v.has ++ [x]) := by
              show _ = _
              rw [List.take_succ_eq_append_getElem hlt, List.filter_append, ← HX.out]
              have : v.has x = true := by simp only [Vrt.has, HB5.out, HB6.out, HB7.out, Bool.or_true]
              simp [this]
            go_wp2_with (at_builtin; go_loud (refine wpList_append_lies _ rfl _ _ 24 rfl (w.heap.size + 2) 44 i0 altZero 7 104 Tryz.underlying24 HI0.out.1 HI0.out.2.1 HI0.out.2.2.1 HI0.out.2.2.2 rfl (by decide) u5 ((alts.take k).filter v.has).length (((alts.take k).filter v.has).flatMap altCells) rfl (hrow2.out.alloc _) ⟨w2.heap.size, 0, none⟩ 1 1 (altCells x) rfl rfl (World.news_of_block (t := 44) (fr := (0, 0)) (heap_alloc_new _ _)) (altCells_one x) (by omega) (by unfold maxLen; omega) (by omega) (by have := hbel2.out.size; simp; omega) _ rfl ?_); intro g2 cap w5 hown1 hgrow1 _ _)
            have R1 : Hid (ARow w5 (w.heap.size + 2) (.slice (some ⟨g2, 0, none⟩) (((alts.take k).filter v.has).length + 1) cap) ((alts.take (k + 1)).filter v.has)) := by
              show ARow _ _ _ _
              rw [HAS.out]
              unfold ARow
              rw [List.length_append, List.flatMap_append]
              simpa using hown1
            have R2 : Hid (Below (w.heap.size + 2) w1 w5) := (hbel2.out.alloc (by have := hbel2.out.size; omega) _).grown hgrow1 (by have := hbel2.out.size; simp; omega) (fun i hi => (World.ownsRow.lt hrow2.out i hi).1)
            clear hown1 hgrow1
            go_roundg (gk - 1)
            case measure => omega
            case rel => exact ⟨k + 1, by omega, by go_num, R1.out, R2.out⟩
          | false =>
            have HAS : Hid ((alts.take (k + 1)).filter v.has = (alts.take k).filter v.has) := by
              show _ = _
              rw [List.take_succ_eq_append_getElem hlt, List.filter_append, ← HX.out]
              have : v.has x = false := by simp only [Vrt.has, HB5.out, HB6.out, HB7.out]; rfl
              simp [this]
            go_wp2_with fail
            go_roundg (gk - 1)
            case measure => omega
            case rel => exact ⟨k + 1, by omega, by go_num, by show ARow _ _ _ _; rw [HAS.out]; exact hrow2.out, hbel2.out⟩
    · obtain rfl : k = alts.length := by omega
      have hge : ¬ (alts.length : Int) < (alts.length : Int) := by omega
      go_wp2_with fail
      go_ret
      rw [List.take_length] at hrow
      exact ⟨_, rfl, row_mono hrow.out (by omega), hbel1.out.trans ⟨hbel.out.os, hbel.out.tape, hbel.out.output, hbel.out.size, fun i hi => hbel.out.block i (by omega)⟩⟩
end Go.Proofs.YtelkphcbopbhoaaGreatDoor
