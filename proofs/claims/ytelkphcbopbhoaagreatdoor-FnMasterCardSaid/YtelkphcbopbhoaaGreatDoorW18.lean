/-
  Walks: a buffer that is filled from a reader.
-/
import Derived.Test.YtelkphcbopbhoaaGreatDoorW17
import Derived.Test.YtelkphcbopbhoaaGreatDoorWB
import Derived.Laws.CopyOwn
import Derived.Lib.BufferMore
namespace Go.Proofs.YtelkphcbopbhoaaGreatDoor
open Go Go.RowKit

set_option maxHeartbeats 1000000 in
theorem grow_any (B b n : Nat) (bs : List Value) (w : World) (h : Lib.IsBuffer 75 5 B b bs w) (hBw : B ≤ w.heap.size) (h1 : ∀ v ∈ bs, v.oneCell' = true) (hbs : bs.length ≤ 100000) (hn : n ≤ 100000) :
    Calls Tryz.prog 33 #[.pointer (some ⟨b, 0, none⟩), .int .i64 n] w fun e w' => e = .returned (.int .i64 bs.length) ∧ ∃ xs, xs.length = n ∧ Lib.IsBuffer 75 5 B b (bs ++ xs) w' ∧ Below B w w' ∧ w.grownBy w' (some b) := by
  by_cases hr : Lib.NoRoom b n w
  · refine (Tryz.Buffer_grow_own B b n bs w h hr hBw h1 (by omega)).mono ?_
    rintro e w' ⟨he, xs, h2, h3, h4, _, h5⟩
    exact ⟨he, xs, h2, h3, h4, h5⟩
  · have hc1 : w.cell? ⟨b, 1, none⟩ = some (.int .i64 0) := by
      obtain ⟨_, v, lr, hb, _⟩ := h
      simp [World.cell?, hb]
    have H := Lib.hid h
    have HR := Lib.hid hr
    clear h hr h1
    cases h0 : ((bs.length : Int) == 0)
    all_goals
      go_enter Tryz.func33, Tryz.ntmps33
      go_wp2_with (first
        | (go_at_call 40; refine (Tryz.Buffer_Len B b bs w H.out).mono ?_; rintro e w' ⟨rfl, n', rfl⟩)
        | (go_at_call 42; refine (Tryz.Buffer_tryGrow_own B b n bs _ (by exact H.out)).mono ?_; rintro e w' (⟨rfl, hx⟩ | ⟨_, _, hnr⟩); rotate_left; exact absurd (show Lib.NoRoom b n w from hnr) HR.out))
      obtain ⟨xs, hx1, hx2, hx3, _, hx5⟩ := hx
      go_ret
      exact ⟨rfl, xs, hx1, hx2, ⟨hx3.os, hx3.tape, hx3.output, hx3.size, hx3.block⟩, ⟨hx5.os, hx5.tape, hx5.output, hx5.size, hx5.block⟩⟩

/-- Nothing but draws. -/
def Still (w w' : World) : Prop := w'.os = w.os ∧ w'.tape = w.tape ∧ w'.output = w.output ∧ w'.heap = w.heap
theorem Still.chg {S : Nat → Prop} {w w' : World} (h : Still w w') : Chg S w w' := ⟨h.1, h.2.1, h.2.2.1, by rw [h.2.2.2]; exact Nat.le_refl _, fun i _ _ => by rw [h.2.2.2]⟩

/-- Read, where nothing is left. -/
theorem read_end (R i c L : Nat) (A : Option Addr) (prev : Int) (dst eof : Value) (w : World) (hR : Box w R 85 [.slice A L c, .int .i64 i, .int .i64 prev]) (hi : L ≤ i) (hi2 : i ≤ 100000) (hd : ∃ a n c, dst = .slice a n c) (he : w.cell? ⟨1, 0, none⟩ = some eof) (hef : ∃ t v, eof = .iface t v) :
    Calls Tryz.prog 181 #[.pointer (some ⟨R, 0, none⟩), dst] w fun e w' => e = .returned (.tuple #[.int .i64 0, eof]) ∧ Still w w' := by
  obtain ⟨a, n, cc, rfl⟩ := hd
  obtain ⟨t, v, rfl⟩ := hef
  have h0 := hR.cell 0 rfl
  have h1 := hR.cell 1 rfl
  have hle : (L : Int) ≤ (i : Int) := by omega
  go_enter Tryz.func181, Tryz.ntmps181
  go_wp2_with fail
  go_quiet (fail)
  go_wp2_with fail
  go_quiet (fail)
  go_wp2_with fail
  go_ret2
  exact ⟨rfl, rfl, rfl, rfl, rfl⟩

set_option maxHeartbeats 1000000 in
set_option maxRecDepth 100000 in
/-- Read, where something is left. -/
theorem read_some (R i c L src g o n cc m : Nat) (prev : Int) (T : Bs) (cur : List Value) (w : World) (hR : Box w R 85 [.slice (some ⟨src, 0, none⟩) L c, .int .i64 i, .int .i64 prev]) (hL : T.length = L) (hi : i < L) (hLc : L ≤ c) (hL2 : L ≤ 100000) (hcm : c ≤ 9223372036854775807)
    (hsrc : Hid (∀ j, j < L → w.cell? ⟨src, j, none⟩ = some (.int .u8 (T.getD j 0).toNat))) (hsR : src ≠ R) (hsg : src ≠ g) (hgR : g ≠ R) (hg : w.heap[g]? = some (.cells cur.toArray 5 (0, 0))) (_hn : n ≤ 9223372036854775807) (hm : Hid (m = min (L - i) n)) (hfit : o + m ≤ cur.length) :
    Calls Tryz.prog 181 #[.pointer (some ⟨R, 0, none⟩), .slice (some ⟨g, o, none⟩) n cc] w fun e w' => e = .returned (.tuple #[.int .i64 m, .nilIface]) ∧ Box w' R 85 [.slice (some ⟨src, 0, none⟩) L c, .int .i64 ((i + m : Nat) : Int), .int .i64 (-1)] ∧
      w'.heap[g]? = some (.cells (splice cur o (Lib.byteCells ((T.drop i).take m))).toArray 5 (0, 0)) ∧ Chg (fun k => k = R ∨ k = g) w w' := by
  have h0 := hR.cell 0 rfl
  have h1 := hR.cell 1 rfl
  have h2 := hR.cell 2 rfl
  have f2 := hR.frozen 2
  have hle : ¬ (L : Int) ≤ (i : Int) := by omega
  have H := Lib.hid (And.intro hR hL)
  have HG := Lib.hid hg
  clear hR hL hg
  go_enter Tryz.func181, Tryz.ntmps181
  go_wp2_with fail
  go_quiet (fail)
  go_wp2_with fail
  obtain ⟨w1, hw1⟩ : ∃ w1, w1 = (w.drewN nq).setCell ⟨R, 2, none⟩ (.int .i64 (-1)) := ⟨_, rfl⟩
  rw [← hw1]
  have hB1 : Hid (Box w1 R 85 [.slice (some ⟨src, 0, none⟩) L c, .int .i64 i, .int .i64 (-1)]) := by
    show Box _ _ _ _
    rw [hw1]
    exact Box.set (w := w.drewN nq) H.out.1 2 _
  have hC1 : Chg (fun k => k = R ∨ k = g) w w1 := by rw [hw1]; exact ((Chg.refl _ w).drewN nq).setCell _ _ (fun _ => .inl rfl)
  have hg1 : Hid (w1.heap[g]? = some (.cells cur.toArray 5 (0, 0))) := by
    show _ = _
    rw [hw1, heap_setCell_other _ _ _ _ hgR]
    exact HG.out
  have hs1 : Hid (∀ j, j < L → w1.cell? ⟨src, j, none⟩ = some (.int .u8 (T.getD j 0).toNat)) := by
    intro j hj
    rw [hw1, World.cell?_of_block (heap_setCell_other _ _ _ _ hsR)]
    exact hsrc.out j hj
  have HC1 := Lib.hid hC1
  clear hw1 hC1 h0 h1 h2 f2
  refine still_tail 10 (by kernel_rfl) (by kernel_rfl) ?_
  intro w2 hw2
  simp only [List.take_succ_cons, List.take_zero, List.drop_succ_cons, List.drop_zero]
  have hB2 : Box w2 R 85 [.slice (some ⟨src, 0, none⟩) L c, .int .i64 i, .int .i64 (-1)] := by rw [hw2.out]; exact hB1.out
  have hg2 : Hid (w2.heap[g]? = some (.cells cur.toArray 5 (0, 0))) := by show _ = _; rw [hw2.out]; exact hg1.out
  have hs2 : Hid (∀ j, j < L → w2.cell? ⟨src, j, none⟩ = some (.int .u8 (T.getD j 0).toNat)) := by
    intro j hj
    rw [hw2.out]
    exact hs1.out j hj
  have HC2 : Hid (Chg (fun k => k = R ∨ k = g) w w2) := by show Chg _ _ _; rw [hw2.out]; exact HC1.out.drew
  have c0 := hB2.cell 0 rfl
  have c1 := hB2.cell 1 rfl
  have HB2 := Lib.hid hB2
  have hci : (i : Int) ≤ (L : Int) := by omega
  have hci2 : (i : Int) ≤ (c : Int) := by omega
  have hci3 : ¬ c = i := by omega
  clear hw2 hB2 hB1 hg1 hs1 HC1
  repeat (refine wpStill_step (fun K hK => ?_); go_simp; (refine hK _ ?_; clear hK K))
  refine wpStill_nil ?_
  obtain ⟨cs, hcs⟩ : ∃ cs, cs = Lib.byteCells ((T.drop i).take m) := ⟨_, rfl⟩
  have hcl : cs.length = m := by
    rw [hcs, Lib.byteCells_length, List.length_take, List.length_drop, H.out.2]
    have := hm.out
    omega
  have hone : ∀ v ∈ cs, v.oneCell' = true := by
    intro v hv
    rw [hcs] at hv
    obtain ⟨x, _, rfl⟩ := List.mem_map.1 hv
    rfl
  have hcget : ∀ j v, cs[j]? = some v → w2.cell? ((⟨src, i, none⟩ : Addr).add j) = some v := by
    intro j v hj
    have hjm : j < m := by rw [← hcl]; exact (List.getElem?_eq_some_iff.1 hj).1
    have hjL : i + j < L := by have := hm.out; omega
    have hjT : i + j < T.length := by rw [H.out.2]; exact hjL
    have h1 := hs2.out (i + j) hjL
    have h2 : (⟨src, i, none⟩ : Addr).add j = ⟨src, i + j, none⟩ := by unfold Addr.add; split <;> simp_all
    rw [h2, h1, ← hj, hcs]
    simp only [Lib.byteCells, List.getElem?_map, List.getElem?_take, List.getElem?_drop, hjm, if_true, List.getElem?_eq_getElem hjT, Option.map_some, List.getD, Option.getD_some]
  refine wpList_copy_own rfl (.tmp 20) (.tmp 29) 55 55 rfl 5 Tryz.underlying55 (by kernel_rfl) g o n cc ⟨src, i, none⟩ (L - i) (c - i) rfl rfl cur.toArray 5 hg2.out cs (by rw [hcl]; exact hm.out) hcget (by rw [hcl]; simpa using hfit) hone ?_
  obtain ⟨w3, hw3⟩ : ∃ w3, w3 = w2.setRow g (cur.toArray.toList.take o ++ (cs ++ cur.toArray.toList.drop (o + cs.length))).toArray := ⟨_, rfl⟩
  rw [← hw3, hcl]
  have hB3 : Box w3 R 85 [.slice (some ⟨src, 0, none⟩) L c, .int .i64 i, .int .i64 (-1)] := by
    unfold Box
    rw [hw3, setRow_other _ _ _ _ (Ne.symm hgR)]
    exact HB2.out
  have hg3 : Hid (w3.heap[g]? = some (.cells (splice cur o cs).toArray 5 (0, 0))) := by
    show _ = _
    rw [hw3, setRow_heap w2 g cur.toArray _ 5 _ hg2.out]
    rfl
  have hC3 : Hid (Chg (fun k => k = R ∨ k = g) w w3) := by
    show Chg _ _ _
    refine HC2.out.trans ⟨by rw [hw3]; rfl, by rw [hw3]; rfl, by rw [hw3]; rfl, by rw [hw3]; simp [World.setRow], fun k _ hk => ?_⟩
    rw [hw3, setRow_other _ _ _ _ (fun e => hk (.inr e))]
  have d1 := hB3.cell 1 rfl
  have e1 := hB3.frozen 1
  have HB3 := Lib.hid hB3
  have HCS := Lib.hid hcs
  have hml : (m : Int) ≤ (L : Int) := by have := hm.out; omega
  clear hw3 hcs hcl hone hcget hB3 c0 c1 HB2 hg2 hs2 HC2
  go_wp2
  go_ret2
  refine ⟨rfl, ?_, ?_, hC3.out.setCell _ _ (fun _ => .inl rfl)⟩
  · have := HB3.out.set 1 (.int .i64 ((i : Int) + m))
    exact this
  · rw [heap_setCell_other _ _ _ _ hgR, hg3.out, HCS.out]

end Go.Proofs.YtelkphcbopbhoaaGreatDoor
