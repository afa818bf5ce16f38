/-
  Walks: ReadString.
-/
import Derived.Test.YtelkphcbopbhoaaGreatDoorW19
namespace Go.Proofs.YtelkphcbopbhoaaGreatDoor
open Go Go.RowKit

/-- A buffer that is read: its bytes T, the next to be read at o. -/
structure RBuf (w : World) (b g cap : Nat) (T : Bs) (o : Nat) : Prop where
  buf : ∃ lr, w.heap[b]? = some (.cells #[.slice (some ⟨g, 0, none⟩) T.length cap, .int .i64 o, .int .i8 lr] 75 (0, 0))
  bytes : ∀ j, j < T.length → w.cell? ⟨g, j, none⟩ = some (.int .u8 (T.getD j 0).toNat)
  le : T.length ≤ cap
  capm : cap ≤ 9223372036854775807
  ne : g ≠ b
theorem RBuf.chg {S : Nat → Prop} {w w' : World} {b g cap : Nat} {T : Bs} {o : Nat} (h : RBuf w b g cap T o) (k : Chg S w w') (hb : ¬ S b) (hg : ¬ S g) : RBuf w' b g cap T o := by
  obtain ⟨⟨lr, h1⟩, h2, h3, h4, h5⟩ := h
  refine ⟨⟨lr, ?_⟩, fun j hj => cell_chg (h2 j hj) k hg, h3, h4, h5⟩
  rw [k.block b (Array.getElem?_eq_some_iff.1 h1).1 hb]
  exact h1
theorem RBuf.make {w : World} {b : Nat} {T : Bs} (h : Lib.IsBuffer 75 5 b b (Lib.byteCells T) w) (hT : T ≠ []) : ∃ g cap, b < g ∧ RBuf w b g cap T 0 := by
  obtain ⟨_, lr, ⟨h0, _⟩ | ⟨g, cap, cur, h2, h3, h4, h5, h6, h7, h8, h9⟩⟩ := h.cases
  · have := congrArg List.length h0
    rw [Lib.byteCells_length, List.length_nil] at this
    exact absurd (List.eq_nil_of_length_eq_zero this) hT
  · rw [Lib.byteCells_length] at h2 h5 h8
    refine ⟨g, cap, by omega, ⟨lr, h2⟩, fun j hj => ?_, h5, h6, h9⟩
    have hj2 : j < cur.size := by omega
    have h10 : cur[j]? = (Lib.byteCells T)[j]? := by
      rw [← h8, List.getElem?_take, if_pos hj, Array.getElem?_toList]
    simp only [World.cell?, h4]
    rw [h10]
    simp [Lib.byteCells, hj]

theorem index_line (p r : Bs) (h : ∀ c ∈ p, c ≠ 10) : Lib.indexByte (p ++ 10 :: r) 10 = p.length := by
  induction p with
  | nil => simp [Lib.indexByte]
  | cons c p ih =>
    have hc := h c (by simp)
    have h1 := ih (fun x hx => h x (by simp [hx]))
    simp only [List.cons_append, Lib.indexByte, h1]
    have : (c == 10) = false := by simpa using hc
    rw [this]
    have h2 : ((p.length : Int) == -1) = false := beq_eq_false_iff_ne.2 (by omega)
    rw [h2]
    simp
theorem bytesOf_map (l : Bs) : Lib.bytesOf (l.map fun x => (x.toNat : Int)) = l := by
  unfold Lib.bytesOf
  rw [List.map_map]
  conv => rhs; rw [← List.map_id l]
  apply List.map_congr_left
  intro x _
  simp

theorem chg2 (w : World) (n b i j : Nat) (x y : Value) : Chg (fun k => k = b) w (((w.drewN n).setCell ⟨b, i, none⟩ x).setCell ⟨b, j, none⟩ y) :=
  (((Chg.refl (fun k => k = b) w).drewN n).setCell ⟨b, i, none⟩ x (fun _ => rfl)).setCell ⟨b, j, none⟩ y (fun _ => rfl)
set_option maxRecDepth 100000 in
set_option maxHeartbeats 1000000 in
/-- One line, its newline with it. -/
theorem slice_line (b g cap o : Nat) (T p r : Bs) (w : World) (hB : RBuf w b g cap T o) (hT : Hid (T.drop o = p ++ 10 :: r)) (hp : ∀ c ∈ p, c ≠ 10) (hl : T.length ≤ 100000) :
    Calls Tryz.prog 44 #[.pointer (some ⟨b, 0, none⟩), .int .u8 10] w fun e w' => e = .returned (.tuple #[.slice (some ⟨g, o, none⟩) (p.length + 1) (cap - o), .nilIface]) ∧ RBuf w' b g cap T (o + p.length + 1) ∧ Chg (fun k => k = b) w w' := by
  have hlen : T.length - o = p.length + 1 + r.length := by
    have := congrArg List.length hT.out
    rw [List.length_drop, List.length_append, List.length_cons] at this
    omega
  have hle := hB.le
  have hcm := hB.capm
  obtain ⟨lr, hbk⟩ := hB.buf
  have c0 : w.cell? ⟨b, 0, none⟩ = some (.slice (some ⟨g, 0, none⟩) T.length cap) := by simp [World.cell?, hbk]
  have c1 : w.cell? ⟨b, 1, none⟩ = some (.int .i64 o) := by simp [World.cell?, hbk]
  have c2 : w.cell? ⟨b, 2, none⟩ = some (.int .i8 lr) := by simp [World.cell?, hbk]
  have f1 : w.frozen? ⟨b, 1, none⟩ = false := frozen_of_row _ _ _ _ _ hbk
  have f2 : w.frozen? ⟨b, 2, none⟩ = false := frozen_of_row _ _ _ _ _ hbk
  have i1 : (o : Int) ≤ (T.length : Int) := by omega
  have i2 : (o : Int) ≤ (cap : Int) := by omega
  have i3 : ¬ cap = o := by omega
  have i4 : (0 : Int) ≤ (o : Int) := by omega
  have hidx : ∀ w, (∀ j, j < T.length → w.cell? ⟨g, j, none⟩ = some (.int .u8 (T.getD j 0).toNat)) → Calls Tryz.prog 57 #[.slice (some ⟨g, o, none⟩) (T.length - o) (cap - o), .int .u8 10] w fun e w' => e = .returned (.int .i64 p.length) ∧ w' = w := by
    intro w hw
    refine (Tryz.bytes_IndexByte g o (T.length - o) (cap - o) ((T.drop o).map fun x => (x.toNat : Int)) 10 w (by rw [List.length_map, List.length_drop]) (fun i hi => ?_)).mono ?_
    · rw [hw (o + i) (by omega)]
      have : o + i < T.length := by omega
      simp [List.getD, this]
    · rintro e w' ⟨rfl, rfl⟩
      rw [bytesOf_map, hT.out]
      exact ⟨ret_int (index_line p r hp), rfl⟩
  have HI := Lib.hid hidx
  have HB := Lib.hid hB
  have HBK := Lib.hid hbk
  clear hidx hB hbk hp
  have HL := Lib.hid hlen
  have j1 : (o : Int) + p.length + 1 ≤ (T.length : Int) := by omega
  have j2 : (p.length : Int) ≤ 100000 := by omega
  clear hlen
  go_enter Tryz.func44, Tryz.ntmps44
  go_wp2_with fail
  go_quiet ((go_at_call 57; exact Calls.quiet_of_same (HI.out _ HB.out.bytes)))
  go_wp2_with fail
  have k1 : (o : Int) ≤ (o : Int) + (p.length : Int) + 1 := by omega
  have k2 : (o : Int) + (p.length : Int) + 1 ≤ (cap : Int) := by omega
  have k3 : ((o : Int) + (p.length : Int) + 1).toNat = o + p.length + 1 := by omega
  go_quiet (fail)
  clear k3
  go_wp2_with fail
  go_ret2
  refine ⟨congrArg (fun x => Ending.returned (.tuple #[.slice (some ⟨g, o, none⟩) x (cap - o), .nilIface])) (by omega : o + p.length + 1 - o = p.length + 1), ?_, ?_⟩
  · refine ⟨⟨-1, ?_⟩, fun j hj => ?_, HB.out.le, HB.out.capm, HB.out.ne⟩
    · have h1 := Lib.heap_setCell_same (i := 2) (Lib.heap_setCell_same (i := 1) HBK.out (.int .i64 ((o : Int) + p.length + 1))) (.int .i8 (-1))
      have e : ((o + p.length + 1 : Nat) : Int) = (o : Int) + p.length + 1 := by omega
      rw [e]
      exact h1
    · exact cell_chg (HB.out.bytes j hj) (chg2 w _ b 1 2 _ _) HB.out.ne
  · exact chg2 w _ b 1 2 _ _

theorem index_nil : Lib.indexByte [] 10 = -1 := rfl
set_option maxRecDepth 100000 in
set_option maxHeartbeats 1000000 in
/-- Nothing is left. -/
theorem slice_end (b g cap : Nat) (T : Bs) (eof : Value) (w : World) (hB : RBuf w b g cap T T.length) (hl : T.length ≤ 100000) (he : w.cell? ⟨1, 0, none⟩ = some eof) (hef : ∃ t v, eof = .iface t v) (hb1 : b ≠ 1) :
    Calls Tryz.prog 44 #[.pointer (some ⟨b, 0, none⟩), .int .u8 10] w fun e w' => (∃ o c, e = .returned (.tuple #[.slice (some ⟨g, o, none⟩) 0 c, eof])) ∧ Chg (fun k => k = b) w w' := by
  obtain ⟨et, ev, rfl⟩ := hef
  have hle := hB.le
  have hcm := hB.capm
  obtain ⟨lr, hbk⟩ := hB.buf
  have c0 : w.cell? ⟨b, 0, none⟩ = some (.slice (some ⟨g, 0, none⟩) T.length cap) := by simp [World.cell?, hbk]
  have c1 : w.cell? ⟨b, 1, none⟩ = some (.int .i64 T.length) := by simp [World.cell?, hbk]
  have c2 : w.cell? ⟨b, 2, none⟩ = some (.int .i8 lr) := by simp [World.cell?, hbk]
  have f1 : w.frozen? ⟨b, 1, none⟩ = false := frozen_of_row _ _ _ _ _ hbk
  have f2 : w.frozen? ⟨b, 2, none⟩ = false := frozen_of_row _ _ _ _ _ hbk
  have i2 : (T.length : Int) ≤ (cap : Int) := by omega
  have i4 : (0 : Int) ≤ (T.length : Int) := by omega
  have hidx : ∀ (A : Option Addr) (c : Nat) (w : World), (∃ o, A = some ⟨g, o, none⟩) → Calls Tryz.prog 57 #[.slice A 0 c, .int .u8 10] w fun e w' => e = .returned (.int .i64 (-1)) ∧ w' = w := by
    rintro A c w ⟨o, rfl⟩
    exact Tryz.bytes_IndexByte g o 0 c [] 10 w rfl (fun i hi => by omega)
  have HBK := Lib.hid hbk
  have HX := Lib.hid hidx
  clear hB hbk hidx
  go_enter Tryz.func44, Tryz.ntmps44
  go_wp2_with fail
  go_quiet ((go_at_call 57; exact Calls.quiet_of_same (HX.out _ _ _ (by split <;> exact ⟨_, rfl⟩))))
  go_wp2_with fail
  all_goals
    go_quiet (fail)
    go_wp2_with fail
  all_goals
    go_ret2
    exact ⟨⟨_, _, rfl⟩, chg2 w _ b 1 2 _ _⟩

theorem conv_window {w : World} {b g cap o' : Nat} {T p r : Bs} (o : Nat) (h : RBuf w b g cap T o') (hT : T.drop o = p ++ 10 :: r) (c : Nat) :
    (convert 55 9 (.slice (some ⟨g, o, none⟩) (p.length + 1) c)).run Tryz.prog w = .ok (.string (S (p ++ [10]))) w := by
  have hlen : T.length - o = p.length + 1 + r.length := by
    have := congrArg List.length hT
    rw [List.length_drop, List.length_append, List.length_cons] at this
    omega
  have hb : Lib.Bytes w g 0 (S T) := fun i hi => by
    have hi' : i < T.length := hi
    rw [Nat.zero_add, h.bytes i hi']
    refine congrArg (fun x : UInt8 => some (Value.int .u8 (x.toNat : Int))) ?_
    show T.getD i 0 = T[i]
    simp [List.getD, hi']
  have := Lib.run_convert_window (P := Tryz.prog) w 55 5 9 Tryz.underlying55 Tryz.underlying5 Tryz.underlying9 g 0 (S T) hb o (p.length + 1) c (by show _ ≤ T.length; omega)
  rw [Nat.zero_add] at this
  refine this.trans (congrArg (fun x => Result.ok (Value.string x) w) (S_of ?_))
  rw [Lib.extract_data, S_list, hT, Nat.add_sub_cancel_left]
  rw [show p ++ 10 :: r = (p ++ [10]) ++ r by simp, List.take_append_of_le_length (by simp)]
  exact List.take_of_length_le (by simp)

theorem conv_none (g o c : Nat) (w : World) : (convert 55 9 (.slice (some ⟨g, o, none⟩) 0 c)).run Tryz.prog w = .ok (.string ⟨#[]⟩) w :=
  Lib.run_convert_window (P := Tryz.prog) w 55 5 9 Tryz.underlying55 Tryz.underlying5 Tryz.underlying9 g o ⟨#[]⟩ (fun i hi => absurd hi (Nat.not_lt_zero i)) 0 0 c (Nat.le_refl _)
set_option maxHeartbeats 1000000 in
theorem string_line (b g cap o : Nat) (T p r : Bs) (w : World) (hB : RBuf w b g cap T o) (hT : Hid (T.drop o = p ++ 10 :: r)) (hp : ∀ c ∈ p, c ≠ 10) (hl : T.length ≤ 100000) :
    Calls Tryz.prog 34 #[.pointer (some ⟨b, 0, none⟩), .int .u8 10] w fun e w' => e = .returned (.tuple #[.string (S (p ++ [10])), .nilIface]) ∧ RBuf w' b g cap T (o + p.length + 1) ∧ Chg (fun k => k = b) w w' := by
  have HB := Lib.hid (And.intro hB (And.intro hp hl))
  clear hB hp hl
  go_enter Tryz.func34, Tryz.ntmps34
  go_wp2_with fail
  refine (slice_line b g cap o T p r w HB.out.1 hT HB.out.2.1 HB.out.2.2).mono ?_
  rintro e w1 ⟨rfl, h1, h2⟩
  have hcv := conv_window o h1 hT.out (cap - o)
  have H1 := Lib.hid (And.intro h1 h2)
  clear h1 h2
  go_wp2_with fail
  go_ret2
  exact ⟨rfl, H1.out⟩

set_option maxHeartbeats 1000000 in
theorem string_end (b g cap : Nat) (T : Bs) (eof : Value) (w : World) (hB : RBuf w b g cap T T.length) (hl : T.length ≤ 100000) (he : w.cell? ⟨1, 0, none⟩ = some eof) (hef : ∃ t v, eof = .iface t v) (hb1 : b ≠ 1) :
    Calls Tryz.prog 34 #[.pointer (some ⟨b, 0, none⟩), .int .u8 10] w fun e w' => e = .returned (.tuple #[.string ⟨#[]⟩, eof]) ∧ Chg (fun k => k = b) w w' := by
  have HB := Lib.hid (And.intro hB (And.intro he hef))
  clear hB he hef
  go_enter Tryz.func34, Tryz.ntmps34
  go_wp2_with fail
  refine (slice_end b g cap T eof w HB.out.1 hl HB.out.2.1 HB.out.2.2 hb1).mono ?_
  rintro e w1 ⟨⟨o, c, rfl⟩, h2⟩
  have hcv := conv_none g o c w1
  go_wp2_with fail
  go_ret2
  exact ⟨rfl, h2⟩
end Go.Proofs.YtelkphcbopbhoaaGreatDoor
