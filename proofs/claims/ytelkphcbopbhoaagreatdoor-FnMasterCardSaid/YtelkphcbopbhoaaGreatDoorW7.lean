/-
  Walks: a variant's resolution and attributes.
-/
import Derived.Test.YtelkphcbopbhoaaGreatDoorW6
import Derived.Deep.QuietTactic
import Derived.BigQuiet
namespace Go.Proofs.YtelkphcbopbhoaaGreatDoor
open Go Go.RowKit

def vrtCells (v : Vrt) : List Value := [.string (S v.uri), .int .u32 v.prog, .int .u32 v.band, .int .u32 v.avg, .string (S v.codecs), .int .u32 v.width, .int .u32 v.height, .string (S v.audio), .string (S v.video), .string (S v.subs), .string (S v.caps), .string (S v.name), .int .i64 v.rate]
def vrtVal (v : Vrt) : Value := .agg (vrtCells v).toArray

theorem dec_still (n : Nat) (w : World) (hn : n < 18446744073709551616) :
    Calls Tryz.prog 10 #[.int .u64 n] w fun e w' => e = .returned (.string (S (Lib.decDigits n))) ∧ w' = w :=
  (dec_any n w hn).mono fun _ _ h => ⟨h.1, h.2.symm⟩

set_option maxHeartbeats 2000000 in
set_option maxRecDepth 100000 in
theorem resolution_any (v : Vrt) (w : World) (h1 : v.width ≤ 4000) (h2 : v.height ≤ 3000) :
    Calls Tryz.prog 21 #[vrtVal v] w fun e w' => e = .returned (.string (S v.resolution)) ∧ Below w.heap.size w w' := by
  have hl1 : (S (Lib.decDigits v.width)).size ≤ 20 := dec_length_le _ 20 (by omega) (by omega)
  have hl2 : (S (Lib.decDigits v.height)).size ≤ 20 := dec_length_le _ 20 (by omega) (by omega)
  unfold vrtVal vrtCells
  by_cases h : v.width = 0
  · have hr : Hid (v.resolution = []) := by show _ = _; simp [Vrt.resolution, h]
    have hz : (v.width : Int) = 0 := by omega
    go_enter Tryz.func21, Tryz.ntmps21
    go_wp2
    go_ret
    rw [hr.out]
    exact ⟨rfl, (Below.refl _ _).alloc (Nat.le_refl _) _⟩
  · have hr : Hid (v.resolution = Lib.decDigits v.width ++ 120 :: Lib.decDigits v.height) := by show _ = _; simp [Vrt.resolution, h]
    have hz : ((v.width : Int) == 0) = false := by simp; omega
    go_enter Tryz.func21, Tryz.ntmps21
    go_wp2_with fail
    go_quiet ((go_at_call 10; exact Calls.quiet_of_same (dec_still _ _ (by omega))))
    go_wp2
    go_ret
    rw [hr.out]
    refine ⟨?_, below_drewN' ((Below.refl _ _).alloc (Nat.le_refl _) _) _⟩
    rw [show (⟨#[120]⟩ : ByteArray) = S [120] from rfl, S_append, S_append]
    show Ending.returned (.string _) = _
    simp

theorem none_is (x : Bs) : (!((S x).toList == ([78, 79, 78, 69] : List UInt8))) = decide (x ≠ vNONE) := by
  rw [ba_toList, S_list]
  by_cases h : x = vNONE
  · subst h; rfl
  · rw [decide_eq_true h]
    simp only [Bool.not_eq_true', beq_eq_false_iff_ne, ne_eq]
    exact h
set_option maxHeartbeats 8000000 in
set_option maxRecDepth 100000 in
theorem vrtAttrs_any (v : Vrt) (w : World) (hg : v.Good) :
    Calls Tryz.prog 20 #[vrtVal v] w fun e w' => ∃ r, e = .returned r ∧ Row w' w.heap.size r ((keep v.all).map Attr.line) ∧ Below w.heap.size w w' := by
  have b1 := hg.prog
  have b2 := hg.band
  have b3 := hg.avg
  have b5 := hg.width
  have b6 := hg.height
  have b12 := hg.rate
  have l4 : v.codecs.length ≤ 100 := by rcases hg.codecs with h | h | h <;> rw [h] <;> decide
  have l7 : v.audio.length ≤ 100 := by rcases hg.audio with h | h | h <;> rw [h] <;> decide
  have l8 : v.video.length ≤ 100 := by rcases hg.video with h | h | h <;> rw [h] <;> decide
  have l9 : v.subs.length ≤ 100 := by rcases hg.subs with h | h | h <;> rw [h] <;> decide
  have l10 : v.caps.length ≤ 100 := by rcases hg.caps with h | h | h <;> rw [h] <;> decide
  have l11 : v.name.length ≤ 100 := by rcases hg.name with h | h | h <;> rw [h] <;> decide
  have d1 : (Lib.decDigits v.prog).length ≤ 20 := dec_length_le _ 20 (by omega) (by omega)
  have d2 : (Lib.decDigits v.band).length ≤ 20 := dec_length_le _ 20 (by omega) (by omega)
  have d3 : (Lib.decDigits v.avg).length ≤ 20 := dec_length_le _ 20 (by omega) (by omega)
  have d5 : v.resolution.length ≤ 60 := by
    unfold Vrt.resolution
    split
    · simp
    · have := dec_length_le v.width 20 (by omega) (by omega)
      have := dec_length_le v.height 20 (by omega) (by omega)
      simp; omega
  have d12 : (seconds v.rate).length ≤ 100 := by
    have := dec_length_le (v.rate / 8) 20 (by omega) (by omega)
    have := dec_length_le (v.rate % 8 * 125 / 100) 20 (by omega) (by omega)
    have := dec_length_le (v.rate % 8 * 125 / 10 % 10) 20 (by omega) (by omega)
    have := dec_length_le (v.rate % 8 * 125 % 10) 20 (by omega) (by omega)
    simp [seconds]; omega
  clear hg
  have hunf : vrtVal v = .agg #[.string (S v.uri), .int .u32 v.prog, .int .u32 v.band, .int .u32 v.avg, .string (S v.codecs), .int .u32 v.width, .int .u32 v.height, .string (S v.audio), .string (S v.video), .string (S v.subs), .string (S v.caps), .string (S v.name), .int .i64 v.rate] := rfl
  rw [hunf]
  clear hunf
  go_enter Tryz.func20, Tryz.ntmps20
  go_upto_region 1 with fail
  go_cut [0, 3] (fun _ r wx => AInv w 46 (vrtCells v) ((keep (v.all.take 2)).map Attr.line) r wx)
  case first =>
    refine still_tail 10 (by kernel_rfl) (by kernel_rfl) ?_
    intro w2 hw2
    simp only [List.take_succ_cons, List.take_zero, List.drop_succ_cons, List.drop_zero]
    have hbox : Box w2 w.heap.size 46 (vrtCells v) := by rw [hw2.out]; exact heap_alloc_new _ _
    have hbel : Below w.heap.size w w2 := by rw [hw2.out]; exact ((Below.refl _ _).alloc (Nat.le_refl _) _).drew
    have hsz : w.heap.size + 1 ≤ w2.heap.size := by rw [hw2.out]; simp
    have c1 := hbox.cell 1 rfl
    have c2 := hbox.cell 2 rfl
    have x1 : IntKind.u64.wrap (v.prog : Int) = v.prog := by unfold IntKind.wrap; simp [IntKind.bits, IntKind.signed]; omega
    have x2 : IntKind.u64.wrap (v.band : Int) = v.band := by unfold IntKind.wrap; simp [IntKind.bits, IntKind.signed]; omega
    repeat (refine wpStill_step (fun K hK => ?_); go_simp; first | (refine hK _ ?_; clear hK K) | (refine ⟨_, (line_still _ _ _ _ (by first | omega | (simp; omega) | simp)), hK _ ?_⟩; clear hK K) | (refine ⟨_, (dec_still _ _ (by omega)), hK _ ?_⟩; clear hK K))
    refine wpStill_nil ?_
    go_wp2
    go_meet
    case rel =>
      have hk : keep (v.all.take 2) = v.all.take 2 := by simp [keep, Vrt.all, dec_ne]
      rw [hk]
      exact ⟨row_lit _ _ _ 2 _ (by omega) (by omega) rfl rfl, hbox.alloc _, hbel.alloc (by omega) _, by simp; omega⟩
  case rest =>
  have c3 := hcut.box.cell 3 rfl
  have HI := Lib.hid hcut
  clear hcut
  go_upto_if 17 with fail
  go_cut [3] (fun rr wx => AInv w 46 (vrtCells v) ((keep (v.all.take 3)).map Attr.line) rr wx)
  case first =>
    have e := keep_take v.all 2 (by simp [Vrt.all])
    by_cases h : v.avg = 0
    · have tt : decide (0 < v.avg) = false := decide_eq_false (by omega)
      have e2 : keep (v.all.take 3) = keep (v.all.take 2) := by rw [e]; simp [Vrt.all, h]
      have E2 := Lib.hid e2
      clear e e2 h
      rw [tt]
      go_wp2_with fail
      go_meet
      case rel => rw [E2.out]; exact HI.out
    · have tt : decide (0 < v.avg) = true := decide_eq_true (by omega)
      have e2 : (keep (v.all.take 3)).map Attr.line = (keep (v.all.take 2)).map Attr.line ++ [Attr.line ⟨kAVG, Lib.decDigits v.avg, false⟩] := by rw [e]; simp [Vrt.all, h, dec_ne]
      have E2 := Lib.hid e2
      have hlen : ((keep (v.all.take 2)).map Attr.line).length ≤ 1000000 := by rw [List.length_map]; exact Nat.le_trans (keep_len _) (Nat.le_trans (List.length_take_le _ _) (by decide))
      clear e e2 h
      rw [tt]
      go_wp2_with (first | (go_at_call 30; refine (line_any _ _ _ _ (by first | omega | (simp; omega) | simp)).mono ?_; rintro e w' ⟨rfl, rfl⟩) | (go_at_call 10; refine (dec_any _ _ (by omega)).mono ?_; rintro e w' ⟨rfl, rfl⟩) | (at_builtin; refine wpList_app_str rfl _ _ rfl (w.heap.size + 1) _ _ rfl (HI.out.row.alloc _) _ _ rfl (heap_alloc_new _ _) hlen (by have := HI.out.sz; simp; omega) ?_; intro v' w' hr hg))
      go_meet
      case rel => rw [E2.out]; exact HI.out.step _ hr hg
  case rest =>
  have c4 := hcut.box.cell 4 rfl
  have HI := Lib.hid hcut
  clear hcut
  go_upto_if 28 with fail
  go_cut [3] (fun rr wx => AInv w 46 (vrtCells v) ((keep (v.all.take 4)).map Attr.line) rr wx)
  case first =>
    have e := keep_take v.all 3 (by simp [Vrt.all])
    by_cases h : v.codecs = []
    · have tt : (!(S v.codecs).toList.isEmpty) = false := by rw [empty_is, decide_eq_true h]; rfl
      have e2 : keep (v.all.take 4) = keep (v.all.take 3) := by rw [e]; simp [Vrt.all, h]
      have E2 := Lib.hid e2
      clear e e2 h
      rw [tt]
      go_wp2_with fail
      go_meet
      case rel => rw [E2.out]; exact HI.out
    · have tt : (!(S v.codecs).toList.isEmpty) = true := by rw [empty_is, decide_eq_false h]; rfl
      have e2 : (keep (v.all.take 4)).map Attr.line = (keep (v.all.take 3)).map Attr.line ++ [Attr.line ⟨kCODECS, v.codecs, true⟩] := by rw [e]; simp [Vrt.all, h]
      have E2 := Lib.hid e2
      have hlen : ((keep (v.all.take 3)).map Attr.line).length ≤ 1000000 := by rw [List.length_map]; exact Nat.le_trans (keep_len _) (Nat.le_trans (List.length_take_le _ _) (by decide))
      clear e e2 h
      rw [tt]
      go_wp2_with (first | (go_at_call 30; refine (line_any _ _ _ _ (by first | omega | (simp; omega) | simp)).mono ?_; rintro e w' ⟨rfl, rfl⟩) | (at_builtin; refine wpList_app_str rfl _ _ rfl (w.heap.size + 1) _ _ rfl (HI.out.row.alloc _) _ _ rfl (heap_alloc_new _ _) hlen (by have := HI.out.sz; simp; omega) ?_; intro v' w' hr hg))
      go_meet
      case rel => rw [E2.out]; exact HI.out.step _ hr hg
  case rest =>
  have c0 := hcut.box.cell 0 rfl
  have c1 := hcut.box.cell 1 rfl
  have c2 := hcut.box.cell 2 rfl
  have c3 := hcut.box.cell 3 rfl
  have c4 := hcut.box.cell 4 rfl
  have c5 := hcut.box.cell 5 rfl
  have c6 := hcut.box.cell 6 rfl
  have c7 := hcut.box.cell 7 rfl
  have c8 := hcut.box.cell 8 rfl
  have c9 := hcut.box.cell 9 rfl
  have c10 := hcut.box.cell 10 rfl
  have c11 := hcut.box.cell 11 rfl
  have c12 := hcut.box.cell 12 rfl
  have HI := Lib.hid hcut
  clear hcut
  go_upto_if 37 with fail
  go_cut [3] (fun rr wx => AInv w 46 (vrtCells v) ((keep (v.all.take 5)).map Attr.line) rr wx)
  case first =>
    have e := keep_take v.all 4 (by simp [Vrt.all])
    by_cases h : v.width = 0
    · have tt : decide (0 < v.width) = false := decide_eq_false (by omega)
      have e2 : keep (v.all.take 5) = keep (v.all.take 4) := by rw [e]; simp [Vrt.all, Vrt.resolution, h]
      have E2 := Lib.hid e2
      clear e e2 h
      rw [tt]
      go_wp2_with fail
      go_meet
      case rel => rw [E2.out]; exact HI.out
    · have tt : decide (0 < v.width) = true := decide_eq_true (by omega)
      have e2 : (keep (v.all.take 5)).map Attr.line = (keep (v.all.take 4)).map Attr.line ++ [Attr.line ⟨kRES, v.resolution, false⟩] := by rw [e]; simp [Vrt.all, Vrt.resolution, h]
      have E2 := Lib.hid e2
      have hlen : ((keep (v.all.take 4)).map Attr.line).length ≤ 1000000 := by rw [List.length_map]; exact Nat.le_trans (keep_len _) (Nat.le_trans (List.length_take_le _ _) (by decide))
      clear e e2 h
      rw [tt]
      go_wp2_with (first | (go_at_call 30; refine (line_any _ _ _ _ (by first | omega | (simp; omega) | simp)).mono ?_; rintro e w' ⟨rfl, rfl⟩) | (go_at_call 21; refine (resolution_any v _ b5 b6).mono ?_; rintro e w' ⟨rfl, hres⟩) | (at_builtin; refine wpList_app_str rfl _ _ rfl (w.heap.size + 1) _ _ rfl ((HI.out.below hres).row.alloc _) _ _ rfl (heap_alloc_new _ _) hlen (by have := (HI.out.below hres).sz; simp; omega) ?_; intro v' w' hr hg))
      go_meet
      case rel => rw [E2.out]; exact (HI.out.below hres).step _ hr hg
  case rest =>
  have c7 := hcut.box.cell 7 rfl
  have HI := Lib.hid hcut
  clear hcut
  go_upto_if 46 with fail
  go_cut [3] (fun rr wx => AInv w 46 (vrtCells v) ((keep (v.all.take 6)).map Attr.line) rr wx)
  case first =>
    have e := keep_take v.all 5 (by simp [Vrt.all])
    by_cases h : v.audio = []
    · have tt : (!(S v.audio).toList.isEmpty) = false := by rw [empty_is, decide_eq_true h]; rfl
      have e2 : keep (v.all.take 6) = keep (v.all.take 5) := by rw [e]; simp [Vrt.all, h]
      have E2 := Lib.hid e2
      clear e e2 h
      rw [tt]
      go_wp2_with fail
      go_meet
      case rel => rw [E2.out]; exact HI.out
    · have tt : (!(S v.audio).toList.isEmpty) = true := by rw [empty_is, decide_eq_false h]; rfl
      have e2 : (keep (v.all.take 6)).map Attr.line = (keep (v.all.take 5)).map Attr.line ++ [Attr.line ⟨kAUDIO, v.audio, true⟩] := by rw [e]; simp [Vrt.all, h]
      have E2 := Lib.hid e2
      have hlen : ((keep (v.all.take 5)).map Attr.line).length ≤ 1000000 := by rw [List.length_map]; exact Nat.le_trans (keep_len _) (Nat.le_trans (List.length_take_le _ _) (by decide))
      clear e e2 h
      rw [tt]
      go_wp2_with (first | (go_at_call 30; refine (line_any _ _ _ _ (by first | omega | (simp; omega) | simp)).mono ?_; rintro e w' ⟨rfl, rfl⟩) | (at_builtin; refine wpList_app_str rfl _ _ rfl (w.heap.size + 1) _ _ rfl (HI.out.row.alloc _) _ _ rfl (heap_alloc_new _ _) hlen (by have := HI.out.sz; simp; omega) ?_; intro v' w' hr hg))
      go_meet
      case rel => rw [E2.out]; exact HI.out.step _ hr hg
  case rest =>
  have c8 := hcut.box.cell 8 rfl
  have HI := Lib.hid hcut
  clear hcut
  go_upto_if 55 with fail
  go_cut [3] (fun rr wx => AInv w 46 (vrtCells v) ((keep (v.all.take 7)).map Attr.line) rr wx)
  case first =>
    have e := keep_take v.all 6 (by simp [Vrt.all])
    by_cases h : v.video = []
    · have tt : (!(S v.video).toList.isEmpty) = false := by rw [empty_is, decide_eq_true h]; rfl
      have e2 : keep (v.all.take 7) = keep (v.all.take 6) := by rw [e]; simp [Vrt.all, h]
      have E2 := Lib.hid e2
      clear e e2 h
      rw [tt]
      go_wp2_with fail
      go_meet
      case rel => rw [E2.out]; exact HI.out
    · have tt : (!(S v.video).toList.isEmpty) = true := by rw [empty_is, decide_eq_false h]; rfl
      have e2 : (keep (v.all.take 7)).map Attr.line = (keep (v.all.take 6)).map Attr.line ++ [Attr.line ⟨kVIDEO, v.video, true⟩] := by rw [e]; simp [Vrt.all, h]
      have E2 := Lib.hid e2
      have hlen : ((keep (v.all.take 6)).map Attr.line).length ≤ 1000000 := by rw [List.length_map]; exact Nat.le_trans (keep_len _) (Nat.le_trans (List.length_take_le _ _) (by decide))
      clear e e2 h
      rw [tt]
      go_wp2_with (first | (go_at_call 30; refine (line_any _ _ _ _ (by first | omega | (simp; omega) | simp)).mono ?_; rintro e w' ⟨rfl, rfl⟩) | (at_builtin; refine wpList_app_str rfl _ _ rfl (w.heap.size + 1) _ _ rfl (HI.out.row.alloc _) _ _ rfl (heap_alloc_new _ _) hlen (by have := HI.out.sz; simp; omega) ?_; intro v' w' hr hg))
      go_meet
      case rel => rw [E2.out]; exact HI.out.step _ hr hg
  case rest =>
  have c10 := hcut.box.cell 10 rfl
  have HI := Lib.hid hcut
  clear hcut
  go_upto_if 64 with fail
  go_cut [3] (fun rr wx => AInv w 46 (vrtCells v) ((keep (v.all.take 8)).map Attr.line) rr wx)
  case first =>
    have e := keep_take v.all 7 (by simp [Vrt.all])
    by_cases h : v.caps = []
    · have tt : (!(S v.caps).toList.isEmpty) = false := by rw [empty_is, decide_eq_true h]; rfl
      have e2 : keep (v.all.take 8) = keep (v.all.take 7) := by rw [e]; simp [Vrt.all, h]
      have E2 := Lib.hid e2
      clear e e2 h
      rw [tt]
      go_wp2_with fail
      go_meet
      case rel => rw [E2.out]; exact HI.out
    · have tt : (!(S v.caps).toList.isEmpty) = true := by rw [empty_is, decide_eq_false h]; rfl
      have e2 : (keep (v.all.take 8)).map Attr.line = (keep (v.all.take 7)).map Attr.line ++ [Attr.line ⟨kCC, v.caps, decide (v.caps ≠ vNONE)⟩] := by rw [e]; simp [Vrt.all, h]
      have E2 := Lib.hid e2
      have hlen : ((keep (v.all.take 7)).map Attr.line).length ≤ 1000000 := by rw [List.length_map]; exact Nat.le_trans (keep_len _) (Nat.le_trans (List.length_take_le _ _) (by decide))
      clear e e2 h
      rw [tt]
      go_wp2_with (first | (go_at_call 30; refine (line_any _ _ _ _ (by first | omega | (simp; omega) | simp)).mono ?_; rintro e w' ⟨rfl, rfl⟩) | (at_builtin; refine wpList_app_str rfl _ _ rfl (w.heap.size + 1) _ _ rfl (HI.out.row.alloc _) _ _ rfl (heap_alloc_new _ _) hlen (by have := HI.out.sz; simp; omega) ?_; intro v' w' hr hg))
      go_meet
      case rel => rw [none_is] at hr; rw [E2.out]; exact HI.out.step _ hr hg
  case rest =>
  have c9 := hcut.box.cell 9 rfl
  have HI := Lib.hid hcut
  clear hcut
  go_upto_if 76 with fail
  go_cut [3] (fun rr wx => AInv w 46 (vrtCells v) ((keep (v.all.take 9)).map Attr.line) rr wx)
  case first =>
    have e := keep_take v.all 8 (by simp [Vrt.all])
    by_cases h : v.subs = []
    · have tt : (!(S v.subs).toList.isEmpty) = false := by rw [empty_is, decide_eq_true h]; rfl
      have e2 : keep (v.all.take 9) = keep (v.all.take 8) := by rw [e]; simp [Vrt.all, h]
      have E2 := Lib.hid e2
      clear e e2 h
      rw [tt]
      go_wp2_with fail
      go_meet
      case rel => rw [E2.out]; exact HI.out
    · have tt : (!(S v.subs).toList.isEmpty) = true := by rw [empty_is, decide_eq_false h]; rfl
      have e2 : (keep (v.all.take 9)).map Attr.line = (keep (v.all.take 8)).map Attr.line ++ [Attr.line ⟨kSUBS, v.subs, true⟩] := by rw [e]; simp [Vrt.all, h]
      have E2 := Lib.hid e2
      have hlen : ((keep (v.all.take 8)).map Attr.line).length ≤ 1000000 := by rw [List.length_map]; exact Nat.le_trans (keep_len _) (Nat.le_trans (List.length_take_le _ _) (by decide))
      clear e e2 h
      rw [tt]
      go_wp2_with (first | (go_at_call 30; refine (line_any _ _ _ _ (by first | omega | (simp; omega) | simp)).mono ?_; rintro e w' ⟨rfl, rfl⟩) | (at_builtin; refine wpList_app_str rfl _ _ rfl (w.heap.size + 1) _ _ rfl (HI.out.row.alloc _) _ _ rfl (heap_alloc_new _ _) hlen (by have := HI.out.sz; simp; omega) ?_; intro v' w' hr hg))
      go_meet
      case rel => rw [E2.out]; exact HI.out.step _ hr hg
  case rest =>
  have c11 := hcut.box.cell 11 rfl
  have HI := Lib.hid hcut
  clear hcut
  go_upto_if 85 with fail
  go_cut [3] (fun rr wx => AInv w 46 (vrtCells v) ((keep (v.all.take 10)).map Attr.line) rr wx)
  case first =>
    have e := keep_take v.all 9 (by simp [Vrt.all])
    by_cases h : v.name = []
    · have tt : (!(S v.name).toList.isEmpty) = false := by rw [empty_is, decide_eq_true h]; rfl
      have e2 : keep (v.all.take 10) = keep (v.all.take 9) := by rw [e]; simp [Vrt.all, h]
      have E2 := Lib.hid e2
      clear e e2 h
      rw [tt]
      go_wp2_with fail
      go_meet
      case rel => rw [E2.out]; exact HI.out
    · have tt : (!(S v.name).toList.isEmpty) = true := by rw [empty_is, decide_eq_false h]; rfl
      have e2 : (keep (v.all.take 10)).map Attr.line = (keep (v.all.take 9)).map Attr.line ++ [Attr.line ⟨kNAME, v.name, true⟩] := by rw [e]; simp [Vrt.all, h]
      have E2 := Lib.hid e2
      have hlen : ((keep (v.all.take 9)).map Attr.line).length ≤ 1000000 := by rw [List.length_map]; exact Nat.le_trans (keep_len _) (Nat.le_trans (List.length_take_le _ _) (by decide))
      clear e e2 h
      rw [tt]
      go_wp2_with (first | (go_at_call 30; refine (line_any _ _ _ _ (by first | omega | (simp; omega) | simp)).mono ?_; rintro e w' ⟨rfl, rfl⟩) | (at_builtin; refine wpList_app_str rfl _ _ rfl (w.heap.size + 1) _ _ rfl (HI.out.row.alloc _) _ _ rfl (heap_alloc_new _ _) hlen (by have := HI.out.sz; simp; omega) ?_; intro v' w' hr hg))
      go_meet
      case rel => rw [E2.out]; exact HI.out.step _ hr hg
  case rest =>
  have c12 := hcut.box.cell 12 rfl
  have HI := Lib.hid hcut
  clear hcut
  go_upto_if 94 with fail
  go_cut [3] (fun rr wx => AInv w 46 (vrtCells v) ((keep (v.all.take 11)).map Attr.line) rr wx)
  case first =>
    have e := keep_take v.all 10 (by simp [Vrt.all])
    by_cases h : v.rate = 0
    · have tt : decide (0 < v.rate) = false := decide_eq_false (by omega)
      have e2 : keep (v.all.take 11) = keep (v.all.take 10) := by rw [e]; simp [Vrt.all, h]
      have E2 := Lib.hid e2
      clear e e2 h
      rw [tt]
      go_wp2_with fail
      go_meet
      case rel => rw [E2.out]; exact HI.out
    · have tt : decide (0 < v.rate) = true := decide_eq_true (by omega)
      have e2 : (keep (v.all.take 11)).map Attr.line = (keep (v.all.take 10)).map Attr.line ++ [Attr.line ⟨kRATE, seconds v.rate, false⟩] := by rw [e]; simp [Vrt.all, h, seconds_ne]
      have E2 := Lib.hid e2
      have hlen : ((keep (v.all.take 10)).map Attr.line).length ≤ 1000000 := by rw [List.length_map]; exact Nat.le_trans (keep_len _) (Nat.le_trans (List.length_take_le _ _) (by decide))
      clear e e2 h
      rw [tt]
      go_wp2_with (first | (go_at_call 30; refine (line_any _ _ _ _ (by first | omega | (simp; omega) | simp)).mono ?_; rintro e w' ⟨rfl, rfl⟩) | (go_at_call 31; refine (seconds_any _ _ (by omega)).mono ?_; rintro e w' ⟨rfl, rfl⟩) | (at_builtin; refine wpList_app_str rfl _ _ rfl (w.heap.size + 1) _ _ rfl (HI.out.row.alloc _) _ _ rfl (heap_alloc_new _ _) hlen (by have := HI.out.sz; simp; omega) ?_; intro v' w' hr hg))
      go_meet
      case rel => rw [E2.out]; exact HI.out.step _ hr hg
  case rest =>
  have HI := Lib.hid hcut
  clear hcut
  go_wp2
  go_ret
  refine ⟨_, rfl, ?_, HI.out.bel⟩
  have := HI.out.row
  rw [show v.all.take 11 = v.all from rfl] at this
  exact this.mono (by omega)
end Go.Proofs.YtelkphcbopbhoaaGreatDoor
