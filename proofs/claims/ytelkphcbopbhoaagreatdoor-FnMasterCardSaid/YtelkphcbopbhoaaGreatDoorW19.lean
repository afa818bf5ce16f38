/-
  Walks: ReadFrom.
-/
import Derived.Test.YtelkphcbopbhoaaGreatDoorW18
import Derived.Deep.RegionHeld3
import Derived.LaidEql
namespace Go.Proofs.YtelkphcbopbhoaaGreatDoor
open Go Go.RowKit

theorem grow_at (B b n k : Nat) (bs : List Value) (w : World) (hk : bs.length = k) (hk0 : 0 < n) (h : Lib.IsBuffer 75 5 B b bs w) (hBw : B ≤ w.heap.size) (h1 : ∀ v ∈ bs, v.oneCell' = true) (hbs : k ≤ 100000) (hn : n ≤ 100000) :
    Calls Tryz.prog 33 #[.pointer (some ⟨b, 0, none⟩), .int .i64 n] w fun e w' => e = .returned (.int .i64 k) ∧ w.grownBy w' (some b) ∧ ∃ g cap cur lr, w'.heap[b]? = some (.cells #[.slice (some ⟨g, 0, none⟩) (k + n) cap, .int .i64 0, .int .i8 lr] 75 (0, 0)) ∧ B ≤ g ∧ w'.heap[g]? = some (.cells cur 5 (0, 0)) ∧ k + n ≤ cap ∧ cap ≤ maxLen ∧ cur.size = cap ∧ cur.toList.take k = bs ∧ g ≠ b := by
  refine (grow_any B b n bs w h hBw h1 (by omega) hn).mono ?_
  rintro e w' ⟨rfl, xs, hx, hb, _, hg⟩
  refine ⟨by rw [hk], hg, ?_⟩
  obtain ⟨hB, lr, ⟨h0, _⟩ | ⟨g, cap, cur, h2, h3, h4, h5, h6, h7, h8, h9⟩⟩ := hb.cases
  · have := congrArg List.length h0
    rw [List.length_append, List.length_nil] at this
    omega
  · have hl : (bs ++ xs).length = k + n := by rw [List.length_append]; omega
    rw [hl] at h2 h5 h8
    refine ⟨g, cap, cur, lr, h2, h3, h4, h5, h6, h7, ?_, h9⟩
    have e : cur.toList.take k = (cur.toList.take (k + n)).take k := by rw [List.take_take, Nat.min_eq_left (by omega)]
    rw [e, h8, List.take_append_of_le_length (by omega), List.take_of_length_le (by omega)]

theorem take2 {α : Type} (A C D : List α) : (A ++ (C ++ D)).take (A.length + C.length) = A ++ C := by
  rw [← List.append_assoc, List.take_append_of_le_length (by simp)]
  exact List.take_of_length_le (by simp)
theorem nil_read (a : Addr) (w : World) : (nilAhead 407 53 (.pointer (some a)) "Read").run Tryz.prog w = .ok (some false) w := by kernel_rfl
theorem method_read (a : Addr) (w : World) : (method 407 53 (.pointer (some a)) "Read").run Tryz.prog w = .ok (181, .pointer (some a)) w := by kernel_rfl

set_option maxRecDepth 100000 in
set_option maxHeartbeats 2000000 in
theorem readFrom_any (R src c b L : Nat) (T : Bs) (w : World) (eof : Value) (hR : Box w R 85 [.slice (some ⟨src, 0, none⟩) L c, .int .i64 0, .int .i64 (-1)]) (hL : T.length = L) (hLc : L ≤ c) (hL2 : L ≤ 9000) (hcm : c ≤ 9223372036854775807)
    (hsrc : Hid (∀ j, j < L → w.cell? ⟨src, j, none⟩ = some (.int .u8 (T.getD j 0).toNat))) (hsR : src ≠ R) (hsb : src < b) (hRb : R < b) (hb : Lib.IsBuffer 75 5 b b [] w) (he : w.cell? ⟨1, 0, none⟩ = some eof) (hef : ∃ t v, eof = .iface t v) (hb1 : 1 < b) (hR1 : R ≠ 1)
    (hq : Hid (∀ w, (binOp .eql 51 eof eof).run Tryz.prog w = .ok (.bool true) w)) :
    Calls Tryz.prog 26 #[.pointer (some ⟨b, 0, none⟩), .iface 53 (.pointer (some ⟨R, 0, none⟩))] w fun e w' => e = .returned (.tuple #[.int .i64 L, .nilIface]) ∧ Lib.IsBuffer 75 5 b b (Lib.byteCells T) w' ∧ Chg (fun k => k = R ∨ b ≤ k) w w' := by
  have HRx := Lib.hid (And.intro hR hL)
  have HB := Lib.hid hb
  have f2 : w.frozen? ⟨b, 2, none⟩ = false := by
    obtain ⟨_, v, lr, h, _⟩ := hb
    exact frozen_of_row _ _ _ _ _ h
  have c2 : ∃ lr, w.cell? ⟨b, 2, none⟩ = some (.int .i8 lr) := by
    obtain ⟨_, v, lr, h, _⟩ := hb
    exact ⟨lr, by simp [World.cell?, h]⟩
  obtain ⟨lr, c2⟩ := c2
  obtain ⟨et, ev, rfl⟩ := hef
  clear hR hL hb
  go_enter Tryz.func26, Tryz.ntmps26
  go_wp2_with fail
  have hb0 : Lib.IsBuffer 75 5 b b (Lib.byteCells (T.take 0)) (w.setCell ⟨b, 2, none⟩ (.int .i8 0)) := by rw [List.take_zero]; exact HB.out.setLast 0
  have hR0 : Box (w.setCell ⟨b, 2, none⟩ (.int .i8 0)) R 85 [.slice (some ⟨src, 0, none⟩) L c, .int .i64 0, .int .i64 (-1)] := HRx.out.1.chg ((Chg.refl (fun k => b ≤ k) w).setCell _ _ (fun _ => Nat.le_refl b)) (by omega)
  have hC0 : Chg (fun k => k = R ∨ b ≤ k) w (w.setCell ⟨b, 2, none⟩ (.int .i8 0)) := (Chg.refl _ w).setCell _ _ (fun _ => .inr (Nat.le_refl b))
  go_loopg [4] (L + 1) (fun gk n wr => ∃ (i : Nat) (prev : Int), i + gk = L + 1 ∧ i ≤ L ∧ n = .int .i64 i ∧ Hid (Lib.IsBuffer 75 5 b b (Lib.byteCells (T.take i)) wr) ∧ Hid (Box wr R 85 [.slice (some ⟨src, 0, none⟩) L c, .int .i64 i, .int .i64 prev]) ∧ Hid (Chg (fun k => k = R ∨ b ≤ k) w wr))
  case atStart => exact ⟨0, -1, by omega, by omega, rfl, hb0, hR0, hC0⟩
  case round =>
    clear hb0 hR0 hC0
    obtain ⟨i, prev, hi, hiL0, rfl, HBi, HRi, HCi⟩ := hrel
    by_cases hiL : i ≤ L
    · have hlen : (Lib.byteCells (T.take i)).length = i := by rw [Lib.byteCells_length, List.length_take, HRx.out.2]; omega
      have HLEN := Lib.hid hlen
      clear hlen
      go_wp2_with fail
      refine (grow_at b b 512 i _ wr HLEN.out (by omega) HBi.out (Nat.le_of_lt HBi.out.lt) (Lib.byteCells_one _) (by omega) (by omega)).mono ?_
      rintro e w2 ⟨rfl, hg2, g, cap, cur, lr2, hbk, hbg, hgk, hcap, hcapm, hcs, hct, hgb⟩
      have c0 : w2.cell? ⟨b, 0, none⟩ = some (.slice (some ⟨g, 0, none⟩) (i + 512) cap) := by simp [World.cell?, hbk]
      have fz : w2.frozen? ⟨b, 0, none⟩ = false := frozen_of_row _ _ _ _ _ hbk
      have HBK := Lib.hid hbk
      have HGK := Lib.hid (And.intro hgk (And.intro hcs hct))
      have HG2 := Lib.hid hg2
      unfold maxLen at hcapm
      clear hbk hgk hcs hct hg2
      go_upto_region 4 with fail
      obtain ⟨w3, hw3⟩ : ∃ w3, w3 = w2.setCell ⟨b, 0, none⟩ (.slice (some ⟨g, 0, none⟩) i cap) := ⟨_, rfl⟩
      rw [← hw3]
      have hbk3 : Hid (w3.heap[b]? = some (.cells #[.slice (some ⟨g, 0, none⟩) i cap, .int .i64 0, .int .i8 lr2] 75 (0, 0))) := by
        show _ = _
        rw [hw3]
        exact Lib.heap_setCell_same (i := 0) HBK.out _
      have hgk3 : Hid (w3.heap[g]? = some (.cells cur 5 (0, 0))) := by
        show _ = _
        rw [hw3, heap_setCell_other _ _ _ _ hgb]
        exact HGK.out.1
      have hC3 : Hid (Chg (fun k => k = R ∨ b ≤ k) w w3) := by
        show Chg _ _ _
        rw [hw3]
        exact (HCi.out.grown HG2.out (fun k hk _ => .inr (by cases hk; exact Nat.le_refl _))).setCell _ _ (fun _ => .inr (Nat.le_refl _))
      have hR3 : Hid (Box w3 R 85 [.slice (some ⟨src, 0, none⟩) L c, .int .i64 i, .int .i64 prev]) := by
        show Box _ _ _ _
        rw [hw3]
        exact HRi.out.chg (((Chg.refl (fun k => b ≤ k) wr).grown HG2.out (fun k hk _ => by cases hk; exact Nat.le_refl _)).setCell _ _ (fun _ => Nat.le_refl _)) (by omega)
      clear hw3 c0 fz HBi HRi HCi HBK HG2
      have c0 : w3.cell? ⟨b, 0, none⟩ = some (.slice (some ⟨g, 0, none⟩) i cap) := by simp [World.cell?, hbk3.out]
      have b1 : (0 : Int) ≤ (i : Int) := by omega
      have b2 : (i : Int) ≤ (cap : Int) := by omega
      have b3 : ¬ cap = i := by omega
      have hnr := nil_read
      have hmr := method_read
      have hnl : ∀ w, (binOp .eql 51 .nilIface (.iface et ev)).run Tryz.prog w = .ok (.bool false) w := fun w => run_eql_iface_nil_left w _ _ Tryz.underlying51
      by_cases hlt : i < L
      · obtain ⟨m, hm⟩ : ∃ m, m = min (L - i) (cap - i) := ⟨_, rfl⟩
        have hm1 : 1 ≤ m := by omega
        have hm2 : i + m ≤ L := by omega
        have hm3 : i + m ≤ cap := by omega
        have HM := Lib.hid hm
        clear hm
        have hsrc3 : Hid (∀ j, j < L → w3.cell? ⟨src, j, none⟩ = some (.int .u8 (T.getD j 0).toNat)) := by
          intro j hj
          exact cell_chg (hsrc.out j hj) hC3.out (by rintro (h | h); exact hsR h; simp only at h; omega)
        go_region_held3 (fun w' => w'.cell? ⟨b, 0, none⟩ = some (.slice (some ⟨g, 0, none⟩) i cap)) (go_keep) (first | (go_at_call 181; refine (read_some R i c L src g i (cap - i) (cap - i) m prev T cur.toList _ (by exact hR3.out) HRx.out.2 hlt hLc (by omega) hcm (by exact hsrc3) hsR (by omega) (by omega) (by exact hgk3.out) (by omega) HM (by rw [Array.length_toList, HGK.out.2.1]; omega)).mono ?_; rintro e w4 ⟨rfl, hR4, hg4, hC4⟩; have c4 : w4.cell? ⟨b, 0, none⟩ = some (.slice (some ⟨g, 0, none⟩) i cap) := cell_chg (w := w3.drew) c0 hC4 (by rintro (h | h) <;> simp only at h <;> omega)))
        have hbk4 : w4.heap[b]? = some (.cells #[.slice (some ⟨g, 0, none⟩) i cap, .int .i64 0, .int .i8 lr2] 75 (0, 0)) := by
          rw [hC4.block b (Array.getElem?_eq_some_iff.1 hbk3.out).1 (by rintro (h | h) <;> omega)]
          exact hbk3.out
        have fz : w4.frozen? ⟨b, 0, none⟩ = false := frozen_of_row _ _ _ _ _ hbk4
        have HBK4 := Lib.hid hbk4
        have HR4 := Lib.hid hR4
        have HG4 := Lib.hid hg4
        have HC4 := Lib.hid hC4
        have b4 : (i : Int) + (m : Int) ≤ (cap : Int) := by omega
        have b5 : (m : Int) ≤ 9000 := by omega
        have he3 : w3.cell? ⟨1, 0, none⟩ = some (.iface et ev) := cell_chg (S := fun k => k = R ∨ b ≤ k) he hC3.out (by rintro (h | h) <;> simp only at h <;> omega)
        have he4 : w4.cell? ⟨1, 0, none⟩ = some (.iface et ev) := cell_chg (S := fun k => k = R ∨ k = g) (w := w3.drew) he3 hC4 (by rintro (h | h) <;> simp only at h <;> omega)
        clear he3
        clear hbk4 hR4 hg4 hC4
        go_wp2_with fail
        have hbk5 : (w4.setCell ⟨b, 0, none⟩ (.slice (some ⟨g, 0, none⟩) (i + m) cap)).heap[b]? = some (.cells #[.slice (some ⟨g, 0, none⟩) (i + m) cap, .int .i64 0, .int .i8 lr2] 75 (0, 0)) := Lib.heap_setCell_same (i := 0) HBK4.out _
        have hcsl : (splice cur.toList i (Lib.byteCells ((T.drop i).take m))).length = cap := by
          rw [length_splice, Array.length_toList, HGK.out.2.1]
          rw [Lib.byteCells_length, List.length_take, List.length_drop, HRx.out.2, Array.length_toList, HGK.out.2.1]
          omega
        have hgk5 : (w4.setCell ⟨b, 0, none⟩ (.slice (some ⟨g, 0, none⟩) (i + m) cap)).heap[g]? = some (.cells (splice cur.toList i (Lib.byteCells ((T.drop i).take m))).toArray 5 (0, 0)) := by
          rw [heap_setCell_other _ _ _ _ hgb]
          exact HG4.out
        have htk : (splice cur.toList i (Lib.byteCells ((T.drop i).take m))).take (i + m) = Lib.byteCells (T.take (i + m)) := by
          have h1 : (Lib.byteCells ((T.drop i).take m)).length = m := by rw [Lib.byteCells_length, List.length_take, List.length_drop, HRx.out.2]; omega
          have h2 : (cur.toList.take i).length = i := by rw [List.length_take, Array.length_toList, HGK.out.2.1]; omega
          have h3 := take2 (cur.toList.take i) (Lib.byteCells ((T.drop i).take m)) (cur.toList.drop (i + (Lib.byteCells ((T.drop i).take m)).length))
          rw [h2, h1] at h3
          unfold splice
          rw [h1, h3, HGK.out.2.2, ← Lib.byteCells_append, List.take_add]
        have hIB : Hid (Lib.IsBuffer 75 5 b b (Lib.byteCells (T.take (i + m))) (w4.setCell ⟨b, 0, none⟩ (.slice (some ⟨g, 0, none⟩) (i + m) cap))) := by
          have := Lib.isBuffer_mk (T := 75) (e := 5) (B := b) (Nat.le_refl b) hbk5 hbg hgk5 (by omega) (by unfold maxLen; omega) (by simpa using hcsl) hgb
          rw [List.toList_toArray, htk] at this
          exact this
        have hR5 : Hid (Box (w4.setCell ⟨b, 0, none⟩ (.slice (some ⟨g, 0, none⟩) (i + m) cap)) R 85 [.slice (some ⟨src, 0, none⟩) L c, .int .i64 ((i + m : Nat) : Int), .int .i64 (-1)]) := HR4.out.chg ((Chg.refl (fun k => b ≤ k) w4).setCell _ _ (fun _ => Nat.le_refl _)) (by omega)
        have hC5 : Hid (Chg (fun k => k = R ∨ b ≤ k) w (w4.setCell ⟨b, 0, none⟩ (.slice (some ⟨g, 0, none⟩) (i + m) cap))) := (hC3.out.trans ⟨HC4.out.os, HC4.out.tape, HC4.out.output, HC4.out.size, fun k hk hn => HC4.out.block k hk (fun e => hn (by rcases e with rfl | rfl; exact .inl rfl; exact .inr hbg))⟩).setCell _ _ (fun _ => .inr (Nat.le_refl _))
        clear hbk5 hcsl hgk5 htk
        go_roundg (gk - m)
        case measure => omega
        case rel => exact ⟨i + m, -1, by omega, by omega, by go_num, hIB, hR5, hC5⟩
      · obtain rfl : i = L := by omega
        go_region_held3 (fun w' => w'.cell? ⟨b, 0, none⟩ = some (.slice (some ⟨g, 0, none⟩) i cap)) (go_keep) (first | (go_at_call 181; refine (read_end R i c i (some ⟨src, 0, none⟩) prev (.slice (some ⟨g, i, none⟩) (cap - i) (cap - i)) (.iface et ev) _ (by exact hR3.out) (Nat.le_refl _) (by omega) ⟨_, _, _, rfl⟩ (by exact cell_chg (S := fun k => k = R ∨ b ≤ k) he hC3.out.drew (by rintro (h | h) <;> simp only at h <;> omega)) ⟨_, _, rfl⟩).mono ?_; rintro e w4 ⟨rfl, hS⟩; have c4 : w4.cell? ⟨b, 0, none⟩ = some (.slice (some ⟨g, 0, none⟩) i cap) := cell_chg (S := fun _ => False) (w := w3.drew) c0 hS.chg (fun h => h)))
        have hbk4 : w4.heap[b]? = some (.cells #[.slice (some ⟨g, 0, none⟩) i cap, .int .i64 0, .int .i8 lr2] 75 (0, 0)) := by
          rw [hS.2.2.2]
          exact hbk3.out
        have fz : w4.frozen? ⟨b, 0, none⟩ = false := frozen_of_row _ _ _ _ _ hbk4
        have he3 : w3.cell? ⟨1, 0, none⟩ = some (.iface et ev) := cell_chg (S := fun k => k = R ∨ b ≤ k) he hC3.out (by rintro (h | h) <;> simp only at h <;> omega)
        have he4 : w4.cell? ⟨1, 0, none⟩ = some (.iface et ev) := cell_chg (S := fun _ => False) (w := w3.drew) he3 hS.chg (fun h => h)
        have hqq := hq.out
        have HBK4 := Lib.hid hbk4
        have HS4 := Lib.hid hS
        clear he3 hbk4 hS hnl
        go_wp2_with fail
        go_ret2
        refine ⟨rfl, ?_, ?_⟩
        · have hbk5 : (w4.setCell ⟨b, 0, none⟩ (.slice (some ⟨g, 0, none⟩) i cap)).heap[b]? = some (.cells #[.slice (some ⟨g, 0, none⟩) i cap, .int .i64 0, .int .i8 lr2] 75 (0, 0)) := Lib.heap_setCell_same (i := 0) HBK4.out _
          have hgk5 : (w4.setCell ⟨b, 0, none⟩ (.slice (some ⟨g, 0, none⟩) i cap)).heap[g]? = some (.cells cur 5 (0, 0)) := by
            rw [heap_setCell_other _ _ _ _ hgb, HS4.out.2.2.2]
            exact hgk3.out
          have := Lib.isBuffer_mk (T := 75) (e := 5) (B := b) (Nat.le_refl b) hbk5 hbg hgk5 (by omega) (by unfold maxLen; omega) HGK.out.2.1 hgb
          rw [HGK.out.2.2, List.take_of_length_le (by rw [HRx.out.2]; exact Nat.le_refl _)] at this
          exact this
        · exact ((hC3.out.drew.trans HS4.out.chg)).setCell _ _ (fun _ => .inr (Nat.le_refl _))
    · exact absurd hiL0 hiL
end Go.Proofs.YtelkphcbopbhoaaGreatDoor
