/-
  Walks: what was read is copied.
-/
import Derived.Test.YtelkphcbopbhoaaGreatDoorW31
import Derived.Deep.CutRange
import Derived.Handy
namespace Go.Proofs.YtelkphcbopbhoaaGreatDoor
open Go Go.RowKit

def DL1 : List (Option Tmp) := [some 9, some 10, some 11, some 12, some 13, some 14, some 15, some 16, some 17, some 18, some 3, none]
def L1 (P ver : Nat) (ind : Bool) : List QK :=
  [.eq (ptr P), .eq (ptr P), .eq (.pointer (some ⟨P, 1, none⟩)), .eq (.string ⟨#[]⟩), .eq (ptr P), .eq (.int .u8 ver), .eq (.int .i64 ver), .eq (ptr P), .eq (.bool ind), .eq (.agg (mCells nilS ver ind).toArray), .vp 31 4, .no]
def DL5 : List (Option Tmp) := [some 28, some 29, some 30, some 31, some 32, some 33, some 34, some 35, some 36, some 37, some 38, some 39, some 40, some 41, some 42, some 43, some 44, some 45, some 46, some 47, some 48, some 49, some 50, some 51, some 52, some 53, some 54, some 55, some 56, some 57, some 58, some 59, some 60, some 61, some 62, some 63, some 64, some 65, some 66, some 67, some 68, some 69, some 70, some 71, some 72, some 73, some 74, some 75, some 76, some 77, some 78, some 79, some 80, some 81, some 82, some 83, some 84, some 85, some 86, some 87, some 88, some 89, some 90, some 91, some 92, some 93, some 94, some 95, some 96, some 97, some 98, some 99, some 100, some 101, some 102, some 6, none]
def L5 (b : Nat) (v : Vrt) : List QK :=
  [.eq (ptr b), .eq (ptr b), .eq (.pointer (some ⟨b, 0, none⟩)), .eq (.string (S v.uri)), .eq (ptr b), .eq (ptr b), .eq (.pointer (some ⟨b, 2, none⟩)), .eq (.pointer (some ⟨b, 2, none⟩)), .eq (.int .u32 v.prog), .eq (ptr b), .eq (ptr b), .eq (.pointer (some ⟨b, 2, none⟩)), .eq (.pointer (some ⟨b, 3, none⟩)), .eq (.int .u32 v.band), .eq (ptr b), .eq (ptr b), .eq (.pointer (some ⟨b, 2, none⟩)), .eq (.pointer (some ⟨b, 4, none⟩)), .eq (.int .u32 v.avg), .eq (ptr b), .eq (ptr b), .eq (.pointer (some ⟨b, 2, none⟩)), .eq (.pointer (some ⟨b, 5, none⟩)), .eq (.string (S v.codecs)), .eq (ptr b), .eq (ptr b), .eq (.pointer (some ⟨b, 2, none⟩)), .eq (.pointer (some ⟨b, 6, none⟩)), .eq (.string (S v.resolution)), .eq (ptr b), .eq (ptr b), .eq (.pointer (some ⟨b, 2, none⟩)), .eq (.pointer (some ⟨b, 7, none⟩)), .eq (.string (S v.audio)), .eq (ptr b), .eq (ptr b), .eq (.pointer (some ⟨b, 2, none⟩)), .eq (.pointer (some ⟨b, 8, none⟩)), .eq (.string (S v.video)), .eq (ptr b), .eq (ptr b), .eq (.pointer (some ⟨b, 2, none⟩)), .eq (.pointer (some ⟨b, 9, none⟩)), .eq (.string (S v.subs)), .eq (ptr b), .eq (ptr b), .eq (.pointer (some ⟨b, 2, none⟩)), .eq (.pointer (some ⟨b, 10, none⟩)), .eq (.string (S v.caps)), .eq (ptr b), .eq (ptr b), .eq (.pointer (some ⟨b, 2, none⟩)), .eq (.pointer (some ⟨b, 11, none⟩)), .eq (.string (S v.name)), .eq (ptr b), .eq (ptr b), .eq (.pointer (some ⟨b, 2, none⟩)), .eq (.pointer (some ⟨b, 12, none⟩)), .eq (.bool false), .eq (ptr b), .eq (ptr b), .eq (.pointer (some ⟨b, 2, none⟩)), .eq (.pointer (some ⟨b, 13, none⟩)), .eq (.string ⟨#[]⟩), .eq (ptr b), .eq (ptr b), .eq (.pointer (some ⟨b, 2, none⟩)), .eq (.pointer (some ⟨b, 14, none⟩)), .eq (.string ⟨#[]⟩), .eq (ptr b), .eq (ptr b), .eq (.pointer (some ⟨b, 2, none⟩)), .eq (.pointer (some ⟨b, 15, none⟩)), .eq (.float .f64 (rateW v.rate)), .eq (.agg (xCells v nilS).toArray), .vp 63 16, .no]
def DL9 : List (Option Tmp) := [some 113, some 114, some 115, some 116, some 117, some 118, some 119, some 120, some 121, some 122, some 123, some 124, some 125, some 126, some 127, some 128, some 129, some 130, some 131, some 132, some 133, some 134, some 135, some 136, some 137, some 138, some 139, some 140, some 141, some 142, some 143, some 144, some 145, some 146, some 147, some 148, some 149, some 150, some 151, some 152, some 153, some 154, some 155, some 156, some 157, some 158, none]
def L9 (X : Nat) (V : Value) (A : Nat) (a : Alt) (la : List Alt) : List QK :=
  [.eq (.pointer (some ⟨X, 15, none⟩)), .eq V, .eq (ptr A), .eq (ptr A), .eq (.pointer (some ⟨A, 0, none⟩)), .eq (.string (S a.group)), .eq (ptr A), .eq (ptr A), .eq (.pointer (some ⟨A, 1, none⟩)), .eq (.string (S a.uri)), .eq (ptr A), .eq (ptr A), .eq (.pointer (some ⟨A, 2, none⟩)), .eq (.string (S a.type)), .eq (ptr A), .eq (ptr A), .eq (.pointer (some ⟨A, 3, none⟩)), .eq (.string (S a.lang)), .eq (ptr A), .eq (ptr A), .eq (.pointer (some ⟨A, 4, none⟩)), .eq (.string (S a.name)), .eq (ptr A), .eq (ptr A), .eq (.pointer (some ⟨A, 5, none⟩)), .eq (.bool a.dflt), .eq (ptr A), .eq (ptr A), .eq (.pointer (some ⟨A, 6, none⟩)), .eq (.string (S a.auto)), .eq (ptr A), .eq (ptr A), .eq (.pointer (some ⟨A, 7, none⟩)), .eq (.string ⟨#[]⟩), .eq (ptr A), .eq (ptr A), .eq (.pointer (some ⟨A, 8, none⟩)), .eq (.string ⟨#[]⟩), .eq (ptr A), .eq (ptr A), .eq (.pointer (some ⟨A, 9, none⟩)), .eq (.string ⟨#[]⟩), .eq (.agg (aCells a).toArray), .one 67 (aCells a), .row (X + 1) 67 10 (la ++ [a]).length ((la ++ [a]).flatMap aCells), .eq (.pointer (some ⟨X, 15, none⟩)), .no]
theorem not_row9 {X A : Nat} {V : Value} {a : Alt} {la : List Alt} {j : Nat} (hj : j ≠ 44) : ∀ base t s n xs, ((L9 X V A a la)[j]?.getD .no) ≠ .row base t s n xs := by
  intro base t s n xs
  rcases Nat.lt_or_ge j 47 with hlt | hge
  · rcases (by omega : j = 0 ∨ j = 1 ∨ j = 2 ∨ j = 3 ∨ j = 4 ∨ j = 5 ∨ j = 6 ∨ j = 7 ∨ j = 8 ∨ j = 9 ∨ j = 10 ∨ j = 11 ∨ j = 12 ∨ j = 13 ∨ j = 14 ∨ j = 15 ∨ j = 16 ∨ j = 17 ∨ j = 18 ∨ j = 19 ∨ j = 20 ∨ j = 21 ∨ j = 22 ∨ j = 23 ∨ j = 24 ∨ j = 25 ∨ j = 26 ∨ j = 27 ∨ j = 28 ∨ j = 29 ∨ j = 30 ∨ j = 31 ∨ j = 32 ∨ j = 33 ∨ j = 34 ∨ j = 35 ∨ j = 36 ∨ j = 37 ∨ j = 38 ∨ j = 39 ∨ j = 40 ∨ j = 41 ∨ j = 42 ∨ j = 43 ∨ j = 44 ∨ j = 45 ∨ j = 46) with rfl | rfl | rfl | rfl | rfl | rfl | rfl | rfl | rfl | rfl | rfl | rfl | rfl | rfl | rfl | rfl | rfl | rfl | rfl | rfl | rfl | rfl | rfl | rfl | rfl | rfl | rfl | rfl | rfl | rfl | rfl | rfl | rfl | rfl | rfl | rfl | rfl | rfl | rfl | rfl | rfl | rfl | rfl | rfl | rfl | rfl | rfl
    all_goals first | exact absurd rfl hj | (intro e; cases e)
  · rw [List.getElem?_eq_none (by simp [L9]; omega)]
    intro e; cases e
theorem aCells_one (x : Alt) : ∀ u ∈ aCells x, u.oneCell' = true := by
  intro u hu
  simp only [aCells, List.mem_cons, List.not_mem_nil, or_false] at hu
  rcases hu with rfl | rfl | rfl | rfl | rfl | rfl | rfl | rfl | rfl | rfl <;> rfl

set_option maxHeartbeats 4000000 in
set_option maxRecDepth 100000 in
theorem mof_any {B P ver : Nat} {ind : Bool} {vv va : Value} {vbs abs : List Nat} {vs : List Vrt} {ats : List Alt} {w : World} (h : AD w B P vv va (mplCells vv ver ind) vbs vs abs ats vbs.length) (hver : ver ≤ 200) (hvl : vbs.length ≤ 1000) (hal : ats.length ≤ 1000) :
    Calls Tryz.prog 16 #[ptr P] w fun e w' => ∃ r, e = .returned (.agg (mCells r ver ind).toArray) ∧ MRow w' w.heap.size r vs ats ∧ Below w.heap.size w w' := by
  unfold ptr
  go_enter Tryz.func16, Tryz.ntmps16
  go_upto_region 1 with fail
  obtain ⟨w1, hw1⟩ : ∃ w1, w1 = w.alloc (.cells #[.slice none 0 0, .string ⟨#[]⟩, .int .i64 0, .bool false] 31) := ⟨_, rfl⟩
  rw [← hw1]
  have hR1 : Box w1 w.heap.size 31 (mCells nilS 0 false) := by rw [hw1]; exact Box.new rfl
  have hbP : Box w1 P 77 (mplCells vv ver ind) := by rw [hw1]; exact h.p.alloc _
  have hB1 : Below w.heap.size w w1 := by rw [hw1]; exact (Below.refl _ _).alloc (Nat.le_refl _) _
  have hS1 : w1.heap.size = w.heap.size + 1 := by rw [hw1]; simp
  clear hw1
  go_cut [3] from 9 to 18 (fun s wx => ∃ M, s = .pointer (some ⟨M, 0, none⟩) ∧ Hid (w1.heap.size ≤ M) ∧ Hid (Box wx M 31 (mCells nilS ver ind)) ∧ Hid (Chg (fun _ => False) w1 wx))
  case first =>
    refine wp_region_fill DL1 (by kernel_rfl) (by kernel_rfl) (by kernel_rfl) (fun i v wx => ((L1 P ver ind)[i]?.getD .no).ok w1.heap.size v wx) (fun listed a wx => JB w1 31 (mCells nilS ver ind) 3 (listed.getD 11 false) a wx) ?_ ?_ ?_
    · exact ⟨(Chg.refl _ _).drew, fun e => by cases e⟩
    · intro i o ho listed a wx H hl he
      have hi12 : i < 12 := (Array.getElem?_eq_some_iff.1 ho).1
      rcases (by omega : i = 0 ∨ i = 1 ∨ i = 2 ∨ i = 3 ∨ i = 4 ∨ i = 5 ∨ i = 6 ∨ i = 7 ∨ i = 8 ∨ i = 9 ∨ i = 10 ∨ i = 11) with rfl | rfl | rfl | rfl | rfl | rfl | rfl | rfl | rfl | rfl | rfl | rfl
      · cases ho
        refine wpOp_plain rfl rfl ?_
        exact op_val (ex_move (.tmp 0) rfl) (JB.pure (L := L1 P ver ind) 11 0 9 (by decide) (by decide) H.inv ((H.base 0 (by rfl)).trans rfl))
      · cases ho
        refine wpOp_plain rfl rfl ?_
        exact op_val (ex_nilCheck (.tmp 9) P rfl (H.at_ 0 (d := 9) rfl (he ⟨0, .data⟩ (by simp) rfl))) (JB.pure (L := L1 P ver ind) 11 1 10 (by decide) (by decide) H.inv rfl)
      · cases ho
        refine wpOp_plain rfl rfl ?_
        exact op_val (ex_fa77 (.tmp 10) P rfl (H.at_ 1 (d := 10) rfl (he ⟨1, .data⟩ (by simp) rfl))) (JB.pure (L := L1 P ver ind) 11 2 11 (by decide) (by decide) H.inv rfl)
      · cases ho
        refine wpOp_plain rfl rfl ?_
        exact op_val (ex_ld 9 (.tmp 11) P 1 _ (by decide) rfl (H.at_ 2 (d := 11) rfl (he ⟨2, .data⟩ (by simp) rfl)) ((hbP.chg H.inv.1 (fun h => h)).cell 1 rfl)) (JB.pure (L := L1 P ver ind) 11 3 12 (by decide) (by decide) H.inv rfl)
      · cases ho
        refine wpOp_plain rfl rfl ?_
        exact op_val (ex_move (.tmp 0) rfl) (JB.pure (L := L1 P ver ind) 11 4 13 (by decide) (by decide) H.inv ((H.base 0 (by rfl)).trans rfl))
      · cases ho
        refine wpOp_plain rfl rfl ?_
        refine op_call (ex_call28 28 (.tmp 13) (ptr P) (by decide) rfl (fun _ => rfl) (H.at_ 4 (d := 13) rfl (he ⟨4, .data⟩ (by simp) rfl))) (version_any P _ ver ind wx (hbP.chg H.inv.1 (fun h => h))) ?_
        rintro e w2 ⟨rfl, rfl⟩
        exact ⟨_, rfl, (JB.pure (L := L1 P ver ind) 11 5 14 (by decide) (by decide) H.inv rfl)⟩
      · cases ho
        refine wpOp_plain rfl rfl ?_
        exact op_val (ex_conv53 (.tmp 14) ver hver rfl (H.at_ 5 (d := 14) rfl (he ⟨5, .data⟩ (by simp) rfl))) (JB.pure (L := L1 P ver ind) 11 6 15 (by decide) (by decide) H.inv rfl)
      · cases ho
        refine wpOp_plain rfl rfl ?_
        exact op_val (ex_move (.tmp 0) rfl) (JB.pure (L := L1 P ver ind) 11 7 16 (by decide) (by decide) H.inv ((H.base 0 (by rfl)).trans rfl))
      · cases ho
        refine wpOp_plain rfl rfl ?_
        refine op_call (ex_call28 29 (.tmp 16) (ptr P) (by decide) rfl (fun _ => rfl) (H.at_ 7 (d := 16) rfl (he ⟨7, .data⟩ (by simp) rfl))) (independent_any P _ ver ind wx (hbP.chg H.inv.1 (fun h => h))) ?_
        rintro e w2 ⟨rfl, rfl⟩
        exact ⟨_, rfl, (JB.pure (L := L1 P ver ind) 11 8 17 (by decide) (by decide) H.inv rfl)⟩
      · cases ho
        refine wpOp_plain rfl rfl ?_
        exact op_val (ex_build31 (.tmp 12) (.tmp 15) (.tmp 17) ver ind rfl (H.at_ 3 (d := 12) rfl (he ⟨3, .data⟩ (by simp) rfl)) (H.at_ 6 (d := 15) rfl (he ⟨6, .data⟩ (by simp) rfl)) (H.at_ 8 (d := 17) rfl (he ⟨8, .data⟩ (by simp) rfl))) (JB.pure (L := L1 P ver ind) 11 9 18 (by decide) (by decide) H.inv rfl)
      · cases ho
        refine wpOp_plain rfl rfl ?_
        have nN : listed.getD 11 false = false := by
          cases eN : listed.getD 11 false with
          | false => rfl
          | true => have e36 := H.closed 11 _ rfl eN ⟨10, .data⟩ (by simp) rfl; rw [hl] at e36; cases e36
        exact op_val (ex_alloc31 rfl) (JB.new (L := L1 P ver ind) 11 10 3 (by decide) H.inv nN ((Below.refl _ _).alloc (Nat.le_refl _) _) ⟨_, _, rfl, H.inv.1.size, rfl, Box.new rfl⟩)
      · cases ho
        refine wpOp_plain rfl rfl ?_
        have e1 := (H.at_ 9 (d := 18) rfl (he ⟨9, .data⟩ (by simp) rfl))
        obtain ⟨g, l, e2, e3, e4, e5⟩ := (H.at_ 10 (d := 3) rfl (he ⟨10, .data⟩ (by simp) rfl))
        refine op_store31 (.tmp 3) (.tmp 18) g l ver ind rfl e2 e1 e4 e5 ?_
        intro w3 hbx hch
        refine ⟨_, rfl, trivial, ?_, ?_⟩
        · intro j u _ hu
          exact QK.store (l := l) hch hbx rfl _ u (QK.all_simple (t := 31) (n := 4) (by rfl) j) hu
        · exact ⟨⟨hch.os.trans H.inv.1.os, hch.tape.trans H.inv.1.tape, hch.output.trans H.inv.1.output, Nat.le_trans H.inv.1.size hch.size, fun i hi _ => (hch.block i (Nat.lt_of_lt_of_le hi H.inv.1.size) (by omega)).trans (H.inv.1.block i hi id)⟩, fun _ => ⟨g, e2, e3, hbx⟩⟩
    · intro vals listed wx hv hall hJ
      have h11 := hall 11 (by decide)
      rw [h11] at hJ
      obtain ⟨M, hM1, hM2, hbx⟩ := hJ.2 rfl
      have hchg := hJ.1
      have e3 : vals 3 = .pointer (some ⟨M, 0, none⟩) := fill_eval hM1 (by decide) (by show 3 < 168; decide)
      clear hv hall hJ h11 hM1
      simp only [fill, DL1, List.foldl_cons, List.foldl_nil, Act.put, List.setIfInBounds_toArray, List.set_cons_zero, List.set_cons_succ]
      have E3 := Lib.hid e3
      clear e3
      go_wp2_with fail
      go_meet
      case rel => exact ⟨M, E3.out, hM2, hbx, hchg⟩
  case rest =>
  obtain ⟨M, rfl, hM, hbM, hcM⟩ := hcut
  have HAD : Hid (AD w B P vv va (mplCells vv ver ind) vbs vs abs ats vbs.length) := h
  have hBc : Hid (Below w.heap.size w wc) := hB1.trans ⟨hcM.out.os, hcM.out.tape, hcM.out.output, hcM.out.size, fun i hi => hcM.out.block i (by omega) id⟩
  have hbP2 : Box wc P 77 (mplCells vv ver ind) := hbP.chg hcM.out id
  have hRc : Hid (Box wc w.heap.size 31 (mCells nilS 0 false)) := hR1.chg hcM.out id
  obtain ⟨A1, c1, rfl⟩ := own_shape h.vr
  have p0 := hbP2.cell 0 rfl
  have hv2 : (vbs.length : Int) ≤ 1000 := by omega
  have hMR : Hid (MRow wc (M + 1) nilS (vs.take 0) ats) := ⟨[], rfl, World.ownsRow_nil _ _ _ _, fun i v al h1 _ => by cases h1⟩
  obtain ⟨i0, hi0, hz, hz1, hz2⟩ := info_parts Tryz.info63
  have HI0 := Lib.hid (And.intro hi0 (And.intro hz (And.intro hz1 hz2)))
  clear h hbP hB1 hR1 hcM hbP2 hi0 hz hz1 hz2
  go_wp2_with fail
  clear p0
  go_loopg [24] vbs.length (fun gk i wr => ∃ (k : Nat) (rv : Value), k + gk = vbs.length ∧ i = .int .i64 k ∧ Hid (Below w.heap.size w wr) ∧ Hid (Box wr w.heap.size 31 (mCells nilS 0 false)) ∧ Hid (Box wr M 31 (mCells rv ver ind)) ∧ Hid (MRow wr (M + 1) rv (vs.take k) ats))
  case atStart => exact ⟨0, _, by omega, rfl, hBc.out, hRc.out, hbM.out, hMR.out⟩
  case round =>
    clear hBc hRc hbM hMR
    obtain ⟨k, rv, hk, rfl, hBe, hR, hbM, hMR⟩ := hrel
    rename World => w5
    by_cases hlt : k < vbs.length
    · have hlt' : (k : Int) < (vbs.length : Int) := by omega
      obtain ⟨b, hb⟩ : ∃ b, vbs[k]? = some b := ⟨_, List.getElem?_eq_getElem hlt⟩
      obtain ⟨v, hv⟩ : ∃ v, vs[k]? = some v := ⟨_, List.getElem?_eq_getElem (by rw [HAD.out.len]; exact hlt)⟩
      obtain ⟨g, cap, hgv, hg1, hg2⟩ := World.ownsRow.form HAD.out.vr (by omega)
      cases hgv
      have q0 : w5.cell? ⟨g, k, none⟩ = some (.pointer (some ⟨b, 0, none⟩)) := own_cell (row_below HAD.out.vr hBe.out) (by simp [hb, ptr])
      obtain ⟨al, ps, hbV0, hPR0⟩ := HAD.out.new k b v hb hv hlt
      have hbV : Box w5 b 94 (vCells v al) := hbV0.below hBe.out
      have HV := Lib.hid hbV
      have hPR : Hid (PRow w5 B 95 97 aCells al ps (ats.filter v.has)) := hPR0.chg ((Chg.refl (fun _ => False) w).below hBe.out) (fun _ _ h => h) (fun _ _ h => h)
      have HKV := Lib.hid (And.intro hb hv)
      clear hbV0 hPR0 hb hv
      go_upto_region 5 with fail
      clear q0
      go_cut [6] from 28 to 102 (fun s wx => ∃ X, s = .pointer (some ⟨X, 0, none⟩) ∧ Hid (w5.heap.size ≤ X) ∧ Hid (Box wx X 63 (xCells v nilS)) ∧ Hid (Chg (fun _ => False) w5 wx))
      case first =>
        refine wp_region_fill DL5 (by kernel_rfl) (by kernel_rfl) (by kernel_rfl) (fun i u wx => ((L5 b v)[i]?.getD .no).ok w5.heap.size u wx) (fun listed a wx => JB w5 63 (xCells v nilS) 6 (listed.getD 76 false) a wx) ?_ ?_ ?_
        · exact ⟨(Chg.refl _ _).drew, fun e => by cases e⟩
        · intro i o ho listed a wx H hl he
          have hi77 : i < 77 := (Array.getElem?_eq_some_iff.1 ho).1
          rcases (by omega : i = 0 ∨ i = 1 ∨ i = 2 ∨ i = 3 ∨ i = 4 ∨ i = 5 ∨ i = 6 ∨ i = 7 ∨ i = 8 ∨ i = 9 ∨ i = 10 ∨ i = 11 ∨ i = 12 ∨ i = 13 ∨ i = 14 ∨ i = 15 ∨ i = 16 ∨ i = 17 ∨ i = 18 ∨ i = 19 ∨ i = 20 ∨ i = 21 ∨ i = 22 ∨ i = 23 ∨ i = 24 ∨ i = 25 ∨ i = 26 ∨ i = 27 ∨ i = 28 ∨ i = 29 ∨ i = 30 ∨ i = 31 ∨ i = 32 ∨ i = 33 ∨ i = 34 ∨ i = 35 ∨ i = 36 ∨ i = 37 ∨ i = 38 ∨ i = 39 ∨ i = 40 ∨ i = 41 ∨ i = 42 ∨ i = 43 ∨ i = 44 ∨ i = 45 ∨ i = 46 ∨ i = 47 ∨ i = 48 ∨ i = 49 ∨ i = 50 ∨ i = 51 ∨ i = 52 ∨ i = 53 ∨ i = 54 ∨ i = 55 ∨ i = 56 ∨ i = 57 ∨ i = 58 ∨ i = 59 ∨ i = 60 ∨ i = 61 ∨ i = 62 ∨ i = 63 ∨ i = 64 ∨ i = 65 ∨ i = 66 ∨ i = 67 ∨ i = 68 ∨ i = 69 ∨ i = 70 ∨ i = 71 ∨ i = 72 ∨ i = 73 ∨ i = 74 ∨ i = 75 ∨ i = 76) with rfl | rfl | rfl | rfl | rfl | rfl | rfl | rfl | rfl | rfl | rfl | rfl | rfl | rfl | rfl | rfl | rfl | rfl | rfl | rfl | rfl | rfl | rfl | rfl | rfl | rfl | rfl | rfl | rfl | rfl | rfl | rfl | rfl | rfl | rfl | rfl | rfl | rfl | rfl | rfl | rfl | rfl | rfl | rfl | rfl | rfl | rfl | rfl | rfl | rfl | rfl | rfl | rfl | rfl | rfl | rfl | rfl | rfl | rfl | rfl | rfl | rfl | rfl | rfl | rfl | rfl | rfl | rfl | rfl | rfl | rfl | rfl | rfl | rfl | rfl | rfl | rfl
          · cases ho
            refine wpOp_plain rfl rfl ?_
            exact op_val (ex_move (.tmp 5) rfl) (JB.pure (L := L5 b v) 76 0 28 (by decide) (by decide) H.inv ((H.base 5 (by rfl)).trans rfl))
          · cases ho
            refine wpOp_plain rfl rfl ?_
            exact op_val (ex_nilCheck (.tmp 28) b rfl (H.at_ 0 (d := 28) rfl (he ⟨0, .data⟩ (by simp) rfl))) (JB.pure (L := L5 b v) 76 1 29 (by decide) (by decide) H.inv rfl)
          · cases ho
            refine wpOp_plain rfl rfl ?_
            exact op_val (ex_fa94 (.tmp 29) 0 b (by decide) rfl (H.at_ 1 (d := 29) rfl (he ⟨1, .data⟩ (by simp) rfl))) (JB.pure (L := L5 b v) 76 2 30 (by decide) (by decide) H.inv rfl)
          · cases ho
            refine wpOp_plain rfl rfl ?_
            exact op_val (ex_ld 9 (.tmp 30) b 0 _ (by decide) rfl (H.at_ 2 (d := 30) rfl (he ⟨2, .data⟩ (by simp) rfl)) ((hbV.chg H.inv.1 (fun h => h)).cell 0 rfl)) (JB.pure (L := L5 b v) 76 3 31 (by decide) (by decide) H.inv rfl)
          · cases ho
            refine wpOp_plain rfl rfl ?_
            exact op_val (ex_move (.tmp 5) rfl) (JB.pure (L := L5 b v) 76 4 32 (by decide) (by decide) H.inv ((H.base 5 (by rfl)).trans rfl))
          · cases ho
            refine wpOp_plain rfl rfl ?_
            exact op_val (ex_nilCheck (.tmp 32) b rfl (H.at_ 4 (d := 32) rfl (he ⟨4, .data⟩ (by simp) rfl))) (JB.pure (L := L5 b v) 76 5 33 (by decide) (by decide) H.inv rfl)
          · cases ho
            refine wpOp_plain rfl rfl ?_
            exact op_val (ex_fa94 (.tmp 33) 2 b (by decide) rfl (H.at_ 5 (d := 33) rfl (he ⟨5, .data⟩ (by simp) rfl))) (JB.pure (L := L5 b v) 76 6 34 (by decide) (by decide) H.inv rfl)
          · cases ho
            refine wpOp_plain rfl rfl ?_
            exact op_val (ex_fa92 (.tmp 34) 0 b (by decide) rfl (H.at_ 6 (d := 34) rfl (he ⟨6, .data⟩ (by simp) rfl))) (JB.pure (L := L5 b v) 76 7 35 (by decide) (by decide) H.inv rfl)
          · cases ho
            refine wpOp_plain rfl rfl ?_
            exact op_val (ex_ld 23 (.tmp 35) b 2 _ (by decide) rfl (H.at_ 7 (d := 35) rfl (he ⟨7, .data⟩ (by simp) rfl)) ((hbV.chg H.inv.1 (fun h => h)).cell 2 rfl)) (JB.pure (L := L5 b v) 76 8 36 (by decide) (by decide) H.inv rfl)
          · cases ho
            refine wpOp_plain rfl rfl ?_
            exact op_val (ex_move (.tmp 5) rfl) (JB.pure (L := L5 b v) 76 9 37 (by decide) (by decide) H.inv ((H.base 5 (by rfl)).trans rfl))
          · cases ho
            refine wpOp_plain rfl rfl ?_
            exact op_val (ex_nilCheck (.tmp 37) b rfl (H.at_ 9 (d := 37) rfl (he ⟨9, .data⟩ (by simp) rfl))) (JB.pure (L := L5 b v) 76 10 38 (by decide) (by decide) H.inv rfl)
          · cases ho
            refine wpOp_plain rfl rfl ?_
            exact op_val (ex_fa94 (.tmp 38) 2 b (by decide) rfl (H.at_ 10 (d := 38) rfl (he ⟨10, .data⟩ (by simp) rfl))) (JB.pure (L := L5 b v) 76 11 39 (by decide) (by decide) H.inv rfl)
          · cases ho
            refine wpOp_plain rfl rfl ?_
            exact op_val (ex_fa92 (.tmp 39) 1 b (by decide) rfl (H.at_ 11 (d := 39) rfl (he ⟨11, .data⟩ (by simp) rfl))) (JB.pure (L := L5 b v) 76 12 40 (by decide) (by decide) H.inv rfl)
          · cases ho
            refine wpOp_plain rfl rfl ?_
            exact op_val (ex_ld 23 (.tmp 40) b 3 _ (by decide) rfl (H.at_ 12 (d := 40) rfl (he ⟨12, .data⟩ (by simp) rfl)) ((hbV.chg H.inv.1 (fun h => h)).cell 3 rfl)) (JB.pure (L := L5 b v) 76 13 41 (by decide) (by decide) H.inv rfl)
          · cases ho
            refine wpOp_plain rfl rfl ?_
            exact op_val (ex_move (.tmp 5) rfl) (JB.pure (L := L5 b v) 76 14 42 (by decide) (by decide) H.inv ((H.base 5 (by rfl)).trans rfl))
          · cases ho
            refine wpOp_plain rfl rfl ?_
            exact op_val (ex_nilCheck (.tmp 42) b rfl (H.at_ 14 (d := 42) rfl (he ⟨14, .data⟩ (by simp) rfl))) (JB.pure (L := L5 b v) 76 15 43 (by decide) (by decide) H.inv rfl)
          · cases ho
            refine wpOp_plain rfl rfl ?_
            exact op_val (ex_fa94 (.tmp 43) 2 b (by decide) rfl (H.at_ 15 (d := 43) rfl (he ⟨15, .data⟩ (by simp) rfl))) (JB.pure (L := L5 b v) 76 16 44 (by decide) (by decide) H.inv rfl)
          · cases ho
            refine wpOp_plain rfl rfl ?_
            exact op_val (ex_fa92 (.tmp 44) 2 b (by decide) rfl (H.at_ 16 (d := 44) rfl (he ⟨16, .data⟩ (by simp) rfl))) (JB.pure (L := L5 b v) 76 17 45 (by decide) (by decide) H.inv rfl)
          · cases ho
            refine wpOp_plain rfl rfl ?_
            exact op_val (ex_ld 23 (.tmp 45) b 4 _ (by decide) rfl (H.at_ 17 (d := 45) rfl (he ⟨17, .data⟩ (by simp) rfl)) ((hbV.chg H.inv.1 (fun h => h)).cell 4 rfl)) (JB.pure (L := L5 b v) 76 18 46 (by decide) (by decide) H.inv rfl)
          · cases ho
            refine wpOp_plain rfl rfl ?_
            exact op_val (ex_move (.tmp 5) rfl) (JB.pure (L := L5 b v) 76 19 47 (by decide) (by decide) H.inv ((H.base 5 (by rfl)).trans rfl))
          · cases ho
            refine wpOp_plain rfl rfl ?_
            exact op_val (ex_nilCheck (.tmp 47) b rfl (H.at_ 19 (d := 47) rfl (he ⟨19, .data⟩ (by simp) rfl))) (JB.pure (L := L5 b v) 76 20 48 (by decide) (by decide) H.inv rfl)
          · cases ho
            refine wpOp_plain rfl rfl ?_
            exact op_val (ex_fa94 (.tmp 48) 2 b (by decide) rfl (H.at_ 20 (d := 48) rfl (he ⟨20, .data⟩ (by simp) rfl))) (JB.pure (L := L5 b v) 76 21 49 (by decide) (by decide) H.inv rfl)
          · cases ho
            refine wpOp_plain rfl rfl ?_
            exact op_val (ex_fa92 (.tmp 49) 3 b (by decide) rfl (H.at_ 21 (d := 49) rfl (he ⟨21, .data⟩ (by simp) rfl))) (JB.pure (L := L5 b v) 76 22 50 (by decide) (by decide) H.inv rfl)
          · cases ho
            refine wpOp_plain rfl rfl ?_
            exact op_val (ex_ld 9 (.tmp 50) b 5 _ (by decide) rfl (H.at_ 22 (d := 50) rfl (he ⟨22, .data⟩ (by simp) rfl)) ((hbV.chg H.inv.1 (fun h => h)).cell 5 rfl)) (JB.pure (L := L5 b v) 76 23 51 (by decide) (by decide) H.inv rfl)
          · cases ho
            refine wpOp_plain rfl rfl ?_
            exact op_val (ex_move (.tmp 5) rfl) (JB.pure (L := L5 b v) 76 24 52 (by decide) (by decide) H.inv ((H.base 5 (by rfl)).trans rfl))
          · cases ho
            refine wpOp_plain rfl rfl ?_
            exact op_val (ex_nilCheck (.tmp 52) b rfl (H.at_ 24 (d := 52) rfl (he ⟨24, .data⟩ (by simp) rfl))) (JB.pure (L := L5 b v) 76 25 53 (by decide) (by decide) H.inv rfl)
          · cases ho
            refine wpOp_plain rfl rfl ?_
            exact op_val (ex_fa94 (.tmp 53) 2 b (by decide) rfl (H.at_ 25 (d := 53) rfl (he ⟨25, .data⟩ (by simp) rfl))) (JB.pure (L := L5 b v) 76 26 54 (by decide) (by decide) H.inv rfl)
          · cases ho
            refine wpOp_plain rfl rfl ?_
            exact op_val (ex_fa92 (.tmp 54) 4 b (by decide) rfl (H.at_ 26 (d := 54) rfl (he ⟨26, .data⟩ (by simp) rfl))) (JB.pure (L := L5 b v) 76 27 55 (by decide) (by decide) H.inv rfl)
          · cases ho
            refine wpOp_plain rfl rfl ?_
            exact op_val (ex_ld 9 (.tmp 55) b 6 _ (by decide) rfl (H.at_ 27 (d := 55) rfl (he ⟨27, .data⟩ (by simp) rfl)) ((hbV.chg H.inv.1 (fun h => h)).cell 6 rfl)) (JB.pure (L := L5 b v) 76 28 56 (by decide) (by decide) H.inv rfl)
          · cases ho
            refine wpOp_plain rfl rfl ?_
            exact op_val (ex_move (.tmp 5) rfl) (JB.pure (L := L5 b v) 76 29 57 (by decide) (by decide) H.inv ((H.base 5 (by rfl)).trans rfl))
          · cases ho
            refine wpOp_plain rfl rfl ?_
            exact op_val (ex_nilCheck (.tmp 57) b rfl (H.at_ 29 (d := 57) rfl (he ⟨29, .data⟩ (by simp) rfl))) (JB.pure (L := L5 b v) 76 30 58 (by decide) (by decide) H.inv rfl)
          · cases ho
            refine wpOp_plain rfl rfl ?_
            exact op_val (ex_fa94 (.tmp 58) 2 b (by decide) rfl (H.at_ 30 (d := 58) rfl (he ⟨30, .data⟩ (by simp) rfl))) (JB.pure (L := L5 b v) 76 31 59 (by decide) (by decide) H.inv rfl)
          · cases ho
            refine wpOp_plain rfl rfl ?_
            exact op_val (ex_fa92 (.tmp 59) 5 b (by decide) rfl (H.at_ 31 (d := 59) rfl (he ⟨31, .data⟩ (by simp) rfl))) (JB.pure (L := L5 b v) 76 32 60 (by decide) (by decide) H.inv rfl)
          · cases ho
            refine wpOp_plain rfl rfl ?_
            exact op_val (ex_ld 9 (.tmp 60) b 7 _ (by decide) rfl (H.at_ 32 (d := 60) rfl (he ⟨32, .data⟩ (by simp) rfl)) ((hbV.chg H.inv.1 (fun h => h)).cell 7 rfl)) (JB.pure (L := L5 b v) 76 33 61 (by decide) (by decide) H.inv rfl)
          · cases ho
            refine wpOp_plain rfl rfl ?_
            exact op_val (ex_move (.tmp 5) rfl) (JB.pure (L := L5 b v) 76 34 62 (by decide) (by decide) H.inv ((H.base 5 (by rfl)).trans rfl))
          · cases ho
            refine wpOp_plain rfl rfl ?_
            exact op_val (ex_nilCheck (.tmp 62) b rfl (H.at_ 34 (d := 62) rfl (he ⟨34, .data⟩ (by simp) rfl))) (JB.pure (L := L5 b v) 76 35 63 (by decide) (by decide) H.inv rfl)
          · cases ho
            refine wpOp_plain rfl rfl ?_
            exact op_val (ex_fa94 (.tmp 63) 2 b (by decide) rfl (H.at_ 35 (d := 63) rfl (he ⟨35, .data⟩ (by simp) rfl))) (JB.pure (L := L5 b v) 76 36 64 (by decide) (by decide) H.inv rfl)
          · cases ho
            refine wpOp_plain rfl rfl ?_
            exact op_val (ex_fa92 (.tmp 64) 6 b (by decide) rfl (H.at_ 36 (d := 64) rfl (he ⟨36, .data⟩ (by simp) rfl))) (JB.pure (L := L5 b v) 76 37 65 (by decide) (by decide) H.inv rfl)
          · cases ho
            refine wpOp_plain rfl rfl ?_
            exact op_val (ex_ld 9 (.tmp 65) b 8 _ (by decide) rfl (H.at_ 37 (d := 65) rfl (he ⟨37, .data⟩ (by simp) rfl)) ((hbV.chg H.inv.1 (fun h => h)).cell 8 rfl)) (JB.pure (L := L5 b v) 76 38 66 (by decide) (by decide) H.inv rfl)
          · cases ho
            refine wpOp_plain rfl rfl ?_
            exact op_val (ex_move (.tmp 5) rfl) (JB.pure (L := L5 b v) 76 39 67 (by decide) (by decide) H.inv ((H.base 5 (by rfl)).trans rfl))
          · cases ho
            refine wpOp_plain rfl rfl ?_
            exact op_val (ex_nilCheck (.tmp 67) b rfl (H.at_ 39 (d := 67) rfl (he ⟨39, .data⟩ (by simp) rfl))) (JB.pure (L := L5 b v) 76 40 68 (by decide) (by decide) H.inv rfl)
          · cases ho
            refine wpOp_plain rfl rfl ?_
            exact op_val (ex_fa94 (.tmp 68) 2 b (by decide) rfl (H.at_ 40 (d := 68) rfl (he ⟨40, .data⟩ (by simp) rfl))) (JB.pure (L := L5 b v) 76 41 69 (by decide) (by decide) H.inv rfl)
          · cases ho
            refine wpOp_plain rfl rfl ?_
            exact op_val (ex_fa92 (.tmp 69) 7 b (by decide) rfl (H.at_ 41 (d := 69) rfl (he ⟨41, .data⟩ (by simp) rfl))) (JB.pure (L := L5 b v) 76 42 70 (by decide) (by decide) H.inv rfl)
          · cases ho
            refine wpOp_plain rfl rfl ?_
            exact op_val (ex_ld 9 (.tmp 70) b 9 _ (by decide) rfl (H.at_ 42 (d := 70) rfl (he ⟨42, .data⟩ (by simp) rfl)) ((hbV.chg H.inv.1 (fun h => h)).cell 9 rfl)) (JB.pure (L := L5 b v) 76 43 71 (by decide) (by decide) H.inv rfl)
          · cases ho
            refine wpOp_plain rfl rfl ?_
            exact op_val (ex_move (.tmp 5) rfl) (JB.pure (L := L5 b v) 76 44 72 (by decide) (by decide) H.inv ((H.base 5 (by rfl)).trans rfl))
          · cases ho
            refine wpOp_plain rfl rfl ?_
            exact op_val (ex_nilCheck (.tmp 72) b rfl (H.at_ 44 (d := 72) rfl (he ⟨44, .data⟩ (by simp) rfl))) (JB.pure (L := L5 b v) 76 45 73 (by decide) (by decide) H.inv rfl)
          · cases ho
            refine wpOp_plain rfl rfl ?_
            exact op_val (ex_fa94 (.tmp 73) 2 b (by decide) rfl (H.at_ 45 (d := 73) rfl (he ⟨45, .data⟩ (by simp) rfl))) (JB.pure (L := L5 b v) 76 46 74 (by decide) (by decide) H.inv rfl)
          · cases ho
            refine wpOp_plain rfl rfl ?_
            exact op_val (ex_fa92 (.tmp 74) 8 b (by decide) rfl (H.at_ 46 (d := 74) rfl (he ⟨46, .data⟩ (by simp) rfl))) (JB.pure (L := L5 b v) 76 47 75 (by decide) (by decide) H.inv rfl)
          · cases ho
            refine wpOp_plain rfl rfl ?_
            exact op_val (ex_ld 9 (.tmp 75) b 10 _ (by decide) rfl (H.at_ 47 (d := 75) rfl (he ⟨47, .data⟩ (by simp) rfl)) ((hbV.chg H.inv.1 (fun h => h)).cell 10 rfl)) (JB.pure (L := L5 b v) 76 48 76 (by decide) (by decide) H.inv rfl)
          · cases ho
            refine wpOp_plain rfl rfl ?_
            exact op_val (ex_move (.tmp 5) rfl) (JB.pure (L := L5 b v) 76 49 77 (by decide) (by decide) H.inv ((H.base 5 (by rfl)).trans rfl))
          · cases ho
            refine wpOp_plain rfl rfl ?_
            exact op_val (ex_nilCheck (.tmp 77) b rfl (H.at_ 49 (d := 77) rfl (he ⟨49, .data⟩ (by simp) rfl))) (JB.pure (L := L5 b v) 76 50 78 (by decide) (by decide) H.inv rfl)
          · cases ho
            refine wpOp_plain rfl rfl ?_
            exact op_val (ex_fa94 (.tmp 78) 2 b (by decide) rfl (H.at_ 50 (d := 78) rfl (he ⟨50, .data⟩ (by simp) rfl))) (JB.pure (L := L5 b v) 76 51 79 (by decide) (by decide) H.inv rfl)
          · cases ho
            refine wpOp_plain rfl rfl ?_
            exact op_val (ex_fa92 (.tmp 79) 9 b (by decide) rfl (H.at_ 51 (d := 79) rfl (he ⟨51, .data⟩ (by simp) rfl))) (JB.pure (L := L5 b v) 76 52 80 (by decide) (by decide) H.inv rfl)
          · cases ho
            refine wpOp_plain rfl rfl ?_
            exact op_val (ex_ld 9 (.tmp 80) b 11 _ (by decide) rfl (H.at_ 52 (d := 80) rfl (he ⟨52, .data⟩ (by simp) rfl)) ((hbV.chg H.inv.1 (fun h => h)).cell 11 rfl)) (JB.pure (L := L5 b v) 76 53 81 (by decide) (by decide) H.inv rfl)
          · cases ho
            refine wpOp_plain rfl rfl ?_
            exact op_val (ex_move (.tmp 5) rfl) (JB.pure (L := L5 b v) 76 54 82 (by decide) (by decide) H.inv ((H.base 5 (by rfl)).trans rfl))
          · cases ho
            refine wpOp_plain rfl rfl ?_
            exact op_val (ex_nilCheck (.tmp 82) b rfl (H.at_ 54 (d := 82) rfl (he ⟨54, .data⟩ (by simp) rfl))) (JB.pure (L := L5 b v) 76 55 83 (by decide) (by decide) H.inv rfl)
          · cases ho
            refine wpOp_plain rfl rfl ?_
            exact op_val (ex_fa94 (.tmp 83) 2 b (by decide) rfl (H.at_ 55 (d := 83) rfl (he ⟨55, .data⟩ (by simp) rfl))) (JB.pure (L := L5 b v) 76 56 84 (by decide) (by decide) H.inv rfl)
          · cases ho
            refine wpOp_plain rfl rfl ?_
            exact op_val (ex_fa92 (.tmp 84) 10 b (by decide) rfl (H.at_ 56 (d := 84) rfl (he ⟨56, .data⟩ (by simp) rfl))) (JB.pure (L := L5 b v) 76 57 85 (by decide) (by decide) H.inv rfl)
          · cases ho
            refine wpOp_plain rfl rfl ?_
            exact op_val (ex_ld 4 (.tmp 85) b 12 _ (by decide) rfl (H.at_ 57 (d := 85) rfl (he ⟨57, .data⟩ (by simp) rfl)) ((hbV.chg H.inv.1 (fun h => h)).cell 12 rfl)) (JB.pure (L := L5 b v) 76 58 86 (by decide) (by decide) H.inv rfl)
          · cases ho
            refine wpOp_plain rfl rfl ?_
            exact op_val (ex_move (.tmp 5) rfl) (JB.pure (L := L5 b v) 76 59 87 (by decide) (by decide) H.inv ((H.base 5 (by rfl)).trans rfl))
          · cases ho
            refine wpOp_plain rfl rfl ?_
            exact op_val (ex_nilCheck (.tmp 87) b rfl (H.at_ 59 (d := 87) rfl (he ⟨59, .data⟩ (by simp) rfl))) (JB.pure (L := L5 b v) 76 60 88 (by decide) (by decide) H.inv rfl)
          · cases ho
            refine wpOp_plain rfl rfl ?_
            exact op_val (ex_fa94 (.tmp 88) 2 b (by decide) rfl (H.at_ 60 (d := 88) rfl (he ⟨60, .data⟩ (by simp) rfl))) (JB.pure (L := L5 b v) 76 61 89 (by decide) (by decide) H.inv rfl)
          · cases ho
            refine wpOp_plain rfl rfl ?_
            exact op_val (ex_fa92 (.tmp 89) 11 b (by decide) rfl (H.at_ 61 (d := 89) rfl (he ⟨61, .data⟩ (by simp) rfl))) (JB.pure (L := L5 b v) 76 62 90 (by decide) (by decide) H.inv rfl)
          · cases ho
            refine wpOp_plain rfl rfl ?_
            exact op_val (ex_ld 9 (.tmp 90) b 13 _ (by decide) rfl (H.at_ 62 (d := 90) rfl (he ⟨62, .data⟩ (by simp) rfl)) ((hbV.chg H.inv.1 (fun h => h)).cell 13 rfl)) (JB.pure (L := L5 b v) 76 63 91 (by decide) (by decide) H.inv rfl)
          · cases ho
            refine wpOp_plain rfl rfl ?_
            exact op_val (ex_move (.tmp 5) rfl) (JB.pure (L := L5 b v) 76 64 92 (by decide) (by decide) H.inv ((H.base 5 (by rfl)).trans rfl))
          · cases ho
            refine wpOp_plain rfl rfl ?_
            exact op_val (ex_nilCheck (.tmp 92) b rfl (H.at_ 64 (d := 92) rfl (he ⟨64, .data⟩ (by simp) rfl))) (JB.pure (L := L5 b v) 76 65 93 (by decide) (by decide) H.inv rfl)
          · cases ho
            refine wpOp_plain rfl rfl ?_
            exact op_val (ex_fa94 (.tmp 93) 2 b (by decide) rfl (H.at_ 65 (d := 93) rfl (he ⟨65, .data⟩ (by simp) rfl))) (JB.pure (L := L5 b v) 76 66 94 (by decide) (by decide) H.inv rfl)
          · cases ho
            refine wpOp_plain rfl rfl ?_
            exact op_val (ex_fa92 (.tmp 94) 12 b (by decide) rfl (H.at_ 66 (d := 94) rfl (he ⟨66, .data⟩ (by simp) rfl))) (JB.pure (L := L5 b v) 76 67 95 (by decide) (by decide) H.inv rfl)
          · cases ho
            refine wpOp_plain rfl rfl ?_
            exact op_val (ex_ld 9 (.tmp 95) b 14 _ (by decide) rfl (H.at_ 67 (d := 95) rfl (he ⟨67, .data⟩ (by simp) rfl)) ((hbV.chg H.inv.1 (fun h => h)).cell 14 rfl)) (JB.pure (L := L5 b v) 76 68 96 (by decide) (by decide) H.inv rfl)
          · cases ho
            refine wpOp_plain rfl rfl ?_
            exact op_val (ex_move (.tmp 5) rfl) (JB.pure (L := L5 b v) 76 69 97 (by decide) (by decide) H.inv ((H.base 5 (by rfl)).trans rfl))
          · cases ho
            refine wpOp_plain rfl rfl ?_
            exact op_val (ex_nilCheck (.tmp 97) b rfl (H.at_ 69 (d := 97) rfl (he ⟨69, .data⟩ (by simp) rfl))) (JB.pure (L := L5 b v) 76 70 98 (by decide) (by decide) H.inv rfl)
          · cases ho
            refine wpOp_plain rfl rfl ?_
            exact op_val (ex_fa94 (.tmp 98) 2 b (by decide) rfl (H.at_ 70 (d := 98) rfl (he ⟨70, .data⟩ (by simp) rfl))) (JB.pure (L := L5 b v) 76 71 99 (by decide) (by decide) H.inv rfl)
          · cases ho
            refine wpOp_plain rfl rfl ?_
            exact op_val (ex_fa92 (.tmp 99) 13 b (by decide) rfl (H.at_ 71 (d := 99) rfl (he ⟨71, .data⟩ (by simp) rfl))) (JB.pure (L := L5 b v) 76 72 100 (by decide) (by decide) H.inv rfl)
          · cases ho
            refine wpOp_plain rfl rfl ?_
            exact op_val (ex_ld 60 (.tmp 100) b 15 _ (by decide) rfl (H.at_ 72 (d := 100) rfl (he ⟨72, .data⟩ (by simp) rfl)) ((hbV.chg H.inv.1 (fun h => h)).cell 15 rfl)) (JB.pure (L := L5 b v) 76 73 101 (by decide) (by decide) H.inv rfl)
          · cases ho
            refine wpOp_plain rfl rfl ?_
            exact op_val (ex_build63 (.tmp 31) (.tmp 36) (.tmp 41) (.tmp 46) (.tmp 51) (.tmp 56) (.tmp 61) (.tmp 66) (.tmp 71) (.tmp 76) (.tmp 81) (.tmp 86) (.tmp 91) (.tmp 96) (.tmp 101) v rfl (fun _ => rfl) (H.at_ 3 (d := 31) rfl (he ⟨3, .data⟩ (by simp) rfl)) (H.at_ 8 (d := 36) rfl (he ⟨8, .data⟩ (by simp) rfl)) (H.at_ 13 (d := 41) rfl (he ⟨13, .data⟩ (by simp) rfl)) (H.at_ 18 (d := 46) rfl (he ⟨18, .data⟩ (by simp) rfl)) (H.at_ 23 (d := 51) rfl (he ⟨23, .data⟩ (by simp) rfl)) (H.at_ 28 (d := 56) rfl (he ⟨28, .data⟩ (by simp) rfl)) (H.at_ 33 (d := 61) rfl (he ⟨33, .data⟩ (by simp) rfl)) (H.at_ 38 (d := 66) rfl (he ⟨38, .data⟩ (by simp) rfl)) (H.at_ 43 (d := 71) rfl (he ⟨43, .data⟩ (by simp) rfl)) (H.at_ 48 (d := 76) rfl (he ⟨48, .data⟩ (by simp) rfl)) (H.at_ 53 (d := 81) rfl (he ⟨53, .data⟩ (by simp) rfl)) (H.at_ 58 (d := 86) rfl (he ⟨58, .data⟩ (by simp) rfl)) (H.at_ 63 (d := 91) rfl (he ⟨63, .data⟩ (by simp) rfl)) (H.at_ 68 (d := 96) rfl (he ⟨68, .data⟩ (by simp) rfl)) (H.at_ 73 (d := 101) rfl (he ⟨73, .data⟩ (by simp) rfl))) (JB.pure (L := L5 b v) 76 74 102 (by decide) (by decide) H.inv rfl)
          · cases ho
            refine wpOp_plain rfl rfl ?_
            have nN : listed.getD 76 false = false := by
              cases eN : listed.getD 76 false with
              | false => rfl
              | true => have e36 := H.closed 76 _ rfl eN ⟨75, .data⟩ (by simp) rfl; rw [hl] at e36; cases e36
            exact op_val (ex_alloc63 rfl) (JB.new (L := L5 b v) 76 75 6 (by decide) H.inv nN ((Below.refl _ _).alloc (Nat.le_refl _) _) ⟨_, _, rfl, H.inv.1.size, rfl, Box.new rfl⟩)
          · cases ho
            refine wpOp_plain rfl rfl ?_
            have e1 := (H.at_ 74 (d := 102) rfl (he ⟨74, .data⟩ (by simp) rfl))
            obtain ⟨g, l, e2, e3, e4, e5⟩ := (H.at_ 75 (d := 6) rfl (he ⟨75, .data⟩ (by simp) rfl))
            refine op_store63 (.tmp 6) (.tmp 102) g l v rfl e2 e1 e4 e5 ?_
            intro w3 hbx hch
            refine ⟨_, rfl, trivial, ?_, ?_⟩
            · intro j u _ hu
              exact QK.store (l := l) hch hbx rfl _ u (QK.all_simple (t := 63) (n := 16) (by rfl) j) hu
            · exact ⟨⟨hch.os.trans H.inv.1.os, hch.tape.trans H.inv.1.tape, hch.output.trans H.inv.1.output, Nat.le_trans H.inv.1.size hch.size, fun i hi _ => (hch.block i (Nat.lt_of_lt_of_le hi H.inv.1.size) (by omega)).trans (H.inv.1.block i hi id)⟩, fun _ => ⟨g, e2, e3, hbx⟩⟩
        · intro vals listed wx hv hall hJ
          have h11 := hall 76 (by decide)
          rw [h11] at hJ
          obtain ⟨X, hM1, hM2, hbx⟩ := hJ.2 rfl
          have hchg := hJ.1
          have e3 : vals 6 = .pointer (some ⟨X, 0, none⟩) := fill_eval hM1 (by decide) (by show 6 < 168; decide)
          clear hv hall hJ h11 hM1
          simp only [fill, DL5, List.foldl_cons, List.foldl_nil, Act.put, List.setIfInBounds_toArray, List.set_cons_zero, List.set_cons_succ]
          have E3 := Lib.hid e3
          clear e3
          go_wp2_with fail
          go_meet
          case rel => exact ⟨X, E3.out, hM2, hbx, hchg⟩
      case rest =>
      obtain ⟨X, rfl, hX, hbX, hcX⟩ := hcut
      have hBV : Box wc b 94 (vCells v al) := HV.out.chg hcX.out id
      have hPR2 : Hid (PRow wc B 95 97 aCells al ps (ats.filter v.has)) := hPR.out.chg hcX.out (fun _ _ h => h) (fun _ _ h => h)
      have hVX : Hid (VX w5 wc X v nilS []) := ⟨hcX.out.mono (fun _ _ h => h.elim), hX.out, hbX.out, World.ownsRow_nil _ _ _ _⟩
      obtain ⟨A2, c2, rfl⟩ := own_shape hPR2.out.row
      have v16 := hBV.cell 16 rfl
      have hpl : ps.length ≤ 1000 := by rw [← hPR2.out.len]; exact Nat.le_trans (List.length_filter_le _ _) hal
      have hpl2 : (ps.length : Int) ≤ 1000 := by omega
      clear hBV hPR2 hbV HV hbX hcX
      go_wp2_with fail
      clear v16
      go_loopg [109] ps.length (fun gq i wx => ∃ (q : Nat) (V : Value), q + gq = ps.length ∧ i = .int .i64 q ∧ Hid (VX w5 wx X v V ((ats.filter v.has).take q)))
      case atStart => exact ⟨0, _, by omega, rfl, hVX.out⟩
      case round =>
        clear hVX
        obtain ⟨q, V, hq, rfl, hVX⟩ := hrel
        rename World => w7
        by_cases hlq : q < ps.length
        · have hlq' : (q : Int) < (ps.length : Int) := by omega
          obtain ⟨A, hA⟩ : ∃ A, ps[q]? = some A := ⟨_, List.getElem?_eq_getElem hlq⟩
          have hlf : q < (ats.filter v.has).length := by rw [hPR.out.len]; exact hlq
          obtain ⟨a, ha⟩ : ∃ a, (ats.filter v.has)[q]? = some a := ⟨_, List.getElem?_eq_getElem hlf⟩
          have hPR7 : PRow w7 B 95 97 aCells (.slice A2 ps.length c2) ps (ats.filter v.has) := hPR.out.chg hVX.out.chg (fun i hi hs => by have := (World.ownsRow.lt hPR.out.row i hi).2; omega) (fun b hb hs => by have := hPR.out.low_mem b hb; omega)
          obtain ⟨g2, cap2, hgv2, hg3, hg4⟩ := World.ownsRow.form hPR7.row (by omega)
          cases hgv2
          have q1 : w7.cell? ⟨g2, q, none⟩ = some (.pointer (some ⟨A, 0, none⟩)) := own_cell hPR7.row (by simp [hA, ptr])
          have hbA : Box w7 A 97 (aCells a) := hPR7.box q A a hA ha
          have hAlt : A < w5.heap.size := hPR.out.low_mem A (List.mem_of_getElem? hA)
          have HT : Hid ((ats.filter v.has).take (q + 1) = (ats.filter v.has).take q ++ [a]) := by
            show _ = _
            rw [List.take_succ_eq_append_getElem hlf]
            rw [List.getElem?_eq_getElem hlf] at ha
            simp only [Option.some.injEq] at ha
            rw [ha]
          clear hPR7 hA ha hlf
          go_upto_region 9 with fail
          clear q1
          obtain ⟨la, hla⟩ : ∃ la, la = (ats.filter v.has).take q := ⟨_, rfl⟩
          rw [← hla] at hVX HT
          have hlal : la.length ≤ 1000 := by rw [hla]; exact Nat.le_trans (List.length_take_le _ _) (by omega)
          have hXX : w5.heap.size ≤ X := hX.out
          have hXlt : X < w7.heap.size := hVX.out.box.lt
          have hXs : X + 1 ≤ w7.heap.size := hXlt
          have hVlt : ∀ i, V.ownBlock = some i → i < w7.heap.size := fun i hi => (World.ownsRow.lt hVX.out.row i hi).2
          have hVge : ∀ i, V.ownBlock = some i → X + 1 ≤ i := fun i hi => (World.ownsRow.lt hVX.out.row i hi).1
          have hVX2 : V.ownBlock ≠ some X := fun e => by have := hVge _ e; omega
          have hAX : ¬ (A = X ∨ V.ownBlock = some A) := by
            rintro (e | e)
            · omega
            · have := hVge _ e; omega
          clear hla
          refine wp_region_fill DL9 (by kernel_rfl) (by kernel_rfl) (by kernel_rfl) (fun i u wx => ((L9 X V A a la)[i]?.getD .no).ok w7.heap.size u wx) (fun listed _ wx => JX w7 X v V la a (listed.getD 44 false) (listed.getD 46 false) wx) ?_ ?_ ?_
          · exact ⟨(Chg.refl _ _).drew, fun _ => hVX.out.row, fun _ => hVX.out.box, fun e => by cases e⟩
          · intro i o ho listed ac wx H hl he
            have hi47 : i < 47 := (Array.getElem?_eq_some_iff.1 ho).1
            rcases (by omega : i = 0 ∨ i = 1 ∨ i = 2 ∨ i = 3 ∨ i = 4 ∨ i = 5 ∨ i = 6 ∨ i = 7 ∨ i = 8 ∨ i = 9 ∨ i = 10 ∨ i = 11 ∨ i = 12 ∨ i = 13 ∨ i = 14 ∨ i = 15 ∨ i = 16 ∨ i = 17 ∨ i = 18 ∨ i = 19 ∨ i = 20 ∨ i = 21 ∨ i = 22 ∨ i = 23 ∨ i = 24 ∨ i = 25 ∨ i = 26 ∨ i = 27 ∨ i = 28 ∨ i = 29 ∨ i = 30 ∨ i = 31 ∨ i = 32 ∨ i = 33 ∨ i = 34 ∨ i = 35 ∨ i = 36 ∨ i = 37 ∨ i = 38 ∨ i = 39 ∨ i = 40 ∨ i = 41 ∨ i = 42 ∨ i = 43 ∨ i = 44 ∨ i = 45 ∨ i = 46) with rfl | rfl | rfl | rfl | rfl | rfl | rfl | rfl | rfl | rfl | rfl | rfl | rfl | rfl | rfl | rfl | rfl | rfl | rfl | rfl | rfl | rfl | rfl | rfl | rfl | rfl | rfl | rfl | rfl | rfl | rfl | rfl | rfl | rfl | rfl | rfl | rfl | rfl | rfl | rfl | rfl | rfl | rfl | rfl | rfl | rfl | rfl
            · cases ho
              refine wpOp_plain rfl rfl ?_
              exact op_val (ex_fa63 (.tmp 6) X rfl ((H.base 6 (by rfl)).trans rfl)) (JX.pure (L := L9 X V A a la) 0 (by decide) (by decide) H.inv rfl)
            · cases ho
              refine wpOp_plain rfl rfl ?_
              have n46 : listed.getD 46 false = false := by
                cases e46 : listed.getD 46 false with
                | false => rfl
                | true =>
                  have e44 := H.closed 46 _ rfl e46 ⟨44, .data⟩ (by simp) rfl
                  have e1 := H.closed 44 _ rfl e44 ⟨1, .data⟩ (by simp) rfl
                  rw [hl] at e1; cases e1
              exact op_val (ex_ld 61 (.tmp 113) X 15 V (by decide) rfl (H.at_ 0 (d := 113) rfl (he ⟨0, .data⟩ (by simp) rfl)) ((H.inv.2.2.1 n46).cell 15 rfl)) (JX.pure (L := L9 X V A a la) 1 (by decide) (by decide) H.inv rfl)
            · cases ho
              refine wpOp_plain rfl rfl ?_
              exact op_val (ex_move (.tmp 8) rfl) (JX.pure (L := L9 X V A a la) 2 (by decide) (by decide) H.inv ((H.base 8 (by rfl)).trans rfl))
            · cases ho
              refine wpOp_plain rfl rfl ?_
              exact op_val (ex_nilCheck (.tmp 115) A rfl (H.at_ 2 (d := 115) rfl (he ⟨2, .data⟩ (by simp) rfl))) (JX.pure (L := L9 X V A a la) 3 (by decide) (by decide) H.inv rfl)
            · cases ho
              refine wpOp_plain rfl rfl ?_
              exact op_val (ex_fa97 (.tmp 116) 0 A (by decide) rfl (H.at_ 3 (d := 116) rfl (he ⟨3, .data⟩ (by simp) rfl))) (JX.pure (L := L9 X V A a la) 4 (by decide) (by decide) H.inv rfl)
            · cases ho
              refine wpOp_plain rfl rfl ?_
              exact op_val (ex_ld 9 (.tmp 117) A 0 _ (by decide) rfl (H.at_ 4 (d := 117) rfl (he ⟨4, .data⟩ (by simp) rfl)) ((hbA.chg H.inv.1 hAX).cell 0 rfl)) (JX.pure (L := L9 X V A a la) 5 (by decide) (by decide) H.inv rfl)
            · cases ho
              refine wpOp_plain rfl rfl ?_
              exact op_val (ex_move (.tmp 8) rfl) (JX.pure (L := L9 X V A a la) 6 (by decide) (by decide) H.inv ((H.base 8 (by rfl)).trans rfl))
            · cases ho
              refine wpOp_plain rfl rfl ?_
              exact op_val (ex_nilCheck (.tmp 119) A rfl (H.at_ 6 (d := 119) rfl (he ⟨6, .data⟩ (by simp) rfl))) (JX.pure (L := L9 X V A a la) 7 (by decide) (by decide) H.inv rfl)
            · cases ho
              refine wpOp_plain rfl rfl ?_
              exact op_val (ex_fa97 (.tmp 120) 1 A (by decide) rfl (H.at_ 7 (d := 120) rfl (he ⟨7, .data⟩ (by simp) rfl))) (JX.pure (L := L9 X V A a la) 8 (by decide) (by decide) H.inv rfl)
            · cases ho
              refine wpOp_plain rfl rfl ?_
              exact op_val (ex_ld 9 (.tmp 121) A 1 _ (by decide) rfl (H.at_ 8 (d := 121) rfl (he ⟨8, .data⟩ (by simp) rfl)) ((hbA.chg H.inv.1 hAX).cell 1 rfl)) (JX.pure (L := L9 X V A a la) 9 (by decide) (by decide) H.inv rfl)
            · cases ho
              refine wpOp_plain rfl rfl ?_
              exact op_val (ex_move (.tmp 8) rfl) (JX.pure (L := L9 X V A a la) 10 (by decide) (by decide) H.inv ((H.base 8 (by rfl)).trans rfl))
            · cases ho
              refine wpOp_plain rfl rfl ?_
              exact op_val (ex_nilCheck (.tmp 123) A rfl (H.at_ 10 (d := 123) rfl (he ⟨10, .data⟩ (by simp) rfl))) (JX.pure (L := L9 X V A a la) 11 (by decide) (by decide) H.inv rfl)
            · cases ho
              refine wpOp_plain rfl rfl ?_
              exact op_val (ex_fa97 (.tmp 124) 2 A (by decide) rfl (H.at_ 11 (d := 124) rfl (he ⟨11, .data⟩ (by simp) rfl))) (JX.pure (L := L9 X V A a la) 12 (by decide) (by decide) H.inv rfl)
            · cases ho
              refine wpOp_plain rfl rfl ?_
              exact op_val (ex_ld 9 (.tmp 125) A 2 _ (by decide) rfl (H.at_ 12 (d := 125) rfl (he ⟨12, .data⟩ (by simp) rfl)) ((hbA.chg H.inv.1 hAX).cell 2 rfl)) (JX.pure (L := L9 X V A a la) 13 (by decide) (by decide) H.inv rfl)
            · cases ho
              refine wpOp_plain rfl rfl ?_
              exact op_val (ex_move (.tmp 8) rfl) (JX.pure (L := L9 X V A a la) 14 (by decide) (by decide) H.inv ((H.base 8 (by rfl)).trans rfl))
            · cases ho
              refine wpOp_plain rfl rfl ?_
              exact op_val (ex_nilCheck (.tmp 127) A rfl (H.at_ 14 (d := 127) rfl (he ⟨14, .data⟩ (by simp) rfl))) (JX.pure (L := L9 X V A a la) 15 (by decide) (by decide) H.inv rfl)
            · cases ho
              refine wpOp_plain rfl rfl ?_
              exact op_val (ex_fa97 (.tmp 128) 3 A (by decide) rfl (H.at_ 15 (d := 128) rfl (he ⟨15, .data⟩ (by simp) rfl))) (JX.pure (L := L9 X V A a la) 16 (by decide) (by decide) H.inv rfl)
            · cases ho
              refine wpOp_plain rfl rfl ?_
              exact op_val (ex_ld 9 (.tmp 129) A 3 _ (by decide) rfl (H.at_ 16 (d := 129) rfl (he ⟨16, .data⟩ (by simp) rfl)) ((hbA.chg H.inv.1 hAX).cell 3 rfl)) (JX.pure (L := L9 X V A a la) 17 (by decide) (by decide) H.inv rfl)
            · cases ho
              refine wpOp_plain rfl rfl ?_
              exact op_val (ex_move (.tmp 8) rfl) (JX.pure (L := L9 X V A a la) 18 (by decide) (by decide) H.inv ((H.base 8 (by rfl)).trans rfl))
            · cases ho
              refine wpOp_plain rfl rfl ?_
              exact op_val (ex_nilCheck (.tmp 131) A rfl (H.at_ 18 (d := 131) rfl (he ⟨18, .data⟩ (by simp) rfl))) (JX.pure (L := L9 X V A a la) 19 (by decide) (by decide) H.inv rfl)
            · cases ho
              refine wpOp_plain rfl rfl ?_
              exact op_val (ex_fa97 (.tmp 132) 4 A (by decide) rfl (H.at_ 19 (d := 132) rfl (he ⟨19, .data⟩ (by simp) rfl))) (JX.pure (L := L9 X V A a la) 20 (by decide) (by decide) H.inv rfl)
            · cases ho
              refine wpOp_plain rfl rfl ?_
              exact op_val (ex_ld 9 (.tmp 133) A 4 _ (by decide) rfl (H.at_ 20 (d := 133) rfl (he ⟨20, .data⟩ (by simp) rfl)) ((hbA.chg H.inv.1 hAX).cell 4 rfl)) (JX.pure (L := L9 X V A a la) 21 (by decide) (by decide) H.inv rfl)
            · cases ho
              refine wpOp_plain rfl rfl ?_
              exact op_val (ex_move (.tmp 8) rfl) (JX.pure (L := L9 X V A a la) 22 (by decide) (by decide) H.inv ((H.base 8 (by rfl)).trans rfl))
            · cases ho
              refine wpOp_plain rfl rfl ?_
              exact op_val (ex_nilCheck (.tmp 135) A rfl (H.at_ 22 (d := 135) rfl (he ⟨22, .data⟩ (by simp) rfl))) (JX.pure (L := L9 X V A a la) 23 (by decide) (by decide) H.inv rfl)
            · cases ho
              refine wpOp_plain rfl rfl ?_
              exact op_val (ex_fa97 (.tmp 136) 5 A (by decide) rfl (H.at_ 23 (d := 136) rfl (he ⟨23, .data⟩ (by simp) rfl))) (JX.pure (L := L9 X V A a la) 24 (by decide) (by decide) H.inv rfl)
            · cases ho
              refine wpOp_plain rfl rfl ?_
              exact op_val (ex_ld 4 (.tmp 137) A 5 _ (by decide) rfl (H.at_ 24 (d := 137) rfl (he ⟨24, .data⟩ (by simp) rfl)) ((hbA.chg H.inv.1 hAX).cell 5 rfl)) (JX.pure (L := L9 X V A a la) 25 (by decide) (by decide) H.inv rfl)
            · cases ho
              refine wpOp_plain rfl rfl ?_
              exact op_val (ex_move (.tmp 8) rfl) (JX.pure (L := L9 X V A a la) 26 (by decide) (by decide) H.inv ((H.base 8 (by rfl)).trans rfl))
            · cases ho
              refine wpOp_plain rfl rfl ?_
              exact op_val (ex_nilCheck (.tmp 139) A rfl (H.at_ 26 (d := 139) rfl (he ⟨26, .data⟩ (by simp) rfl))) (JX.pure (L := L9 X V A a la) 27 (by decide) (by decide) H.inv rfl)
            · cases ho
              refine wpOp_plain rfl rfl ?_
              exact op_val (ex_fa97 (.tmp 140) 6 A (by decide) rfl (H.at_ 27 (d := 140) rfl (he ⟨27, .data⟩ (by simp) rfl))) (JX.pure (L := L9 X V A a la) 28 (by decide) (by decide) H.inv rfl)
            · cases ho
              refine wpOp_plain rfl rfl ?_
              exact op_val (ex_ld 9 (.tmp 141) A 6 _ (by decide) rfl (H.at_ 28 (d := 141) rfl (he ⟨28, .data⟩ (by simp) rfl)) ((hbA.chg H.inv.1 hAX).cell 6 rfl)) (JX.pure (L := L9 X V A a la) 29 (by decide) (by decide) H.inv rfl)
            · cases ho
              refine wpOp_plain rfl rfl ?_
              exact op_val (ex_move (.tmp 8) rfl) (JX.pure (L := L9 X V A a la) 30 (by decide) (by decide) H.inv ((H.base 8 (by rfl)).trans rfl))
            · cases ho
              refine wpOp_plain rfl rfl ?_
              exact op_val (ex_nilCheck (.tmp 143) A rfl (H.at_ 30 (d := 143) rfl (he ⟨30, .data⟩ (by simp) rfl))) (JX.pure (L := L9 X V A a la) 31 (by decide) (by decide) H.inv rfl)
            · cases ho
              refine wpOp_plain rfl rfl ?_
              exact op_val (ex_fa97 (.tmp 144) 7 A (by decide) rfl (H.at_ 31 (d := 144) rfl (he ⟨31, .data⟩ (by simp) rfl))) (JX.pure (L := L9 X V A a la) 32 (by decide) (by decide) H.inv rfl)
            · cases ho
              refine wpOp_plain rfl rfl ?_
              exact op_val (ex_ld 9 (.tmp 145) A 7 _ (by decide) rfl (H.at_ 32 (d := 145) rfl (he ⟨32, .data⟩ (by simp) rfl)) ((hbA.chg H.inv.1 hAX).cell 7 rfl)) (JX.pure (L := L9 X V A a la) 33 (by decide) (by decide) H.inv rfl)
            · cases ho
              refine wpOp_plain rfl rfl ?_
              exact op_val (ex_move (.tmp 8) rfl) (JX.pure (L := L9 X V A a la) 34 (by decide) (by decide) H.inv ((H.base 8 (by rfl)).trans rfl))
            · cases ho
              refine wpOp_plain rfl rfl ?_
              exact op_val (ex_nilCheck (.tmp 147) A rfl (H.at_ 34 (d := 147) rfl (he ⟨34, .data⟩ (by simp) rfl))) (JX.pure (L := L9 X V A a la) 35 (by decide) (by decide) H.inv rfl)
            · cases ho
              refine wpOp_plain rfl rfl ?_
              exact op_val (ex_fa97 (.tmp 148) 8 A (by decide) rfl (H.at_ 35 (d := 148) rfl (he ⟨35, .data⟩ (by simp) rfl))) (JX.pure (L := L9 X V A a la) 36 (by decide) (by decide) H.inv rfl)
            · cases ho
              refine wpOp_plain rfl rfl ?_
              exact op_val (ex_ld 9 (.tmp 149) A 8 _ (by decide) rfl (H.at_ 36 (d := 149) rfl (he ⟨36, .data⟩ (by simp) rfl)) ((hbA.chg H.inv.1 hAX).cell 8 rfl)) (JX.pure (L := L9 X V A a la) 37 (by decide) (by decide) H.inv rfl)
            · cases ho
              refine wpOp_plain rfl rfl ?_
              exact op_val (ex_move (.tmp 8) rfl) (JX.pure (L := L9 X V A a la) 38 (by decide) (by decide) H.inv ((H.base 8 (by rfl)).trans rfl))
            · cases ho
              refine wpOp_plain rfl rfl ?_
              exact op_val (ex_nilCheck (.tmp 151) A rfl (H.at_ 38 (d := 151) rfl (he ⟨38, .data⟩ (by simp) rfl))) (JX.pure (L := L9 X V A a la) 39 (by decide) (by decide) H.inv rfl)
            · cases ho
              refine wpOp_plain rfl rfl ?_
              exact op_val (ex_fa97 (.tmp 152) 9 A (by decide) rfl (H.at_ 39 (d := 152) rfl (he ⟨39, .data⟩ (by simp) rfl))) (JX.pure (L := L9 X V A a la) 40 (by decide) (by decide) H.inv rfl)
            · cases ho
              refine wpOp_plain rfl rfl ?_
              exact op_val (ex_ld 9 (.tmp 153) A 9 _ (by decide) rfl (H.at_ 40 (d := 153) rfl (he ⟨40, .data⟩ (by simp) rfl)) ((hbA.chg H.inv.1 hAX).cell 9 rfl)) (JX.pure (L := L9 X V A a la) 41 (by decide) (by decide) H.inv rfl)
            · cases ho
              refine wpOp_plain rfl rfl ?_
              exact op_val (ex_build67 (.tmp 118) (.tmp 122) (.tmp 126) (.tmp 130) (.tmp 134) (.tmp 138) (.tmp 142) (.tmp 146) (.tmp 150) (.tmp 154) a rfl (H.at_ 5 (d := 118) rfl (he ⟨5, .data⟩ (by simp) rfl)) (H.at_ 9 (d := 122) rfl (he ⟨9, .data⟩ (by simp) rfl)) (H.at_ 13 (d := 126) rfl (he ⟨13, .data⟩ (by simp) rfl)) (H.at_ 17 (d := 130) rfl (he ⟨17, .data⟩ (by simp) rfl)) (H.at_ 21 (d := 134) rfl (he ⟨21, .data⟩ (by simp) rfl)) (H.at_ 25 (d := 138) rfl (he ⟨25, .data⟩ (by simp) rfl)) (H.at_ 29 (d := 142) rfl (he ⟨29, .data⟩ (by simp) rfl)) (H.at_ 33 (d := 146) rfl (he ⟨33, .data⟩ (by simp) rfl)) (H.at_ 37 (d := 150) rfl (he ⟨37, .data⟩ (by simp) rfl)) (H.at_ 41 (d := 154) rfl (he ⟨41, .data⟩ (by simp) rfl))) (JX.pure (L := L9 X V A a la) 42 (by decide) (by decide) H.inv rfl)
            · cases ho
              refine wpOp_plain rfl rfl ?_
              exact op_val (ex_slice61 (.tmp 155) a rfl (H.at_ 42 (d := 155) rfl (he ⟨42, .data⟩ (by simp) rfl))) (JX.below (L := L9 X V A a la) 43 (by decide) (by decide) H.inv ((Below.refl _ _).alloc (Nat.le_refl _) _) ⟨_, rfl, heap_alloc_new _ _, H.inv.1.size⟩)
            · cases ho
              refine wpOp_plain rfl rfl ?_
              have n46 : listed.getD 46 false = false := by
                cases e46 : listed.getD 46 false with
                | false => rfl
                | true =>
                  have e44 := H.closed 46 _ rfl e46 ⟨44, .data⟩ (by simp) rfl
                  rw [hl] at e44; cases e44
              have hV := (H.at_ 1 (d := 114) rfl (he ⟨1, .data⟩ (by simp) rfl))
              obtain ⟨g, e1, e2, e3⟩ := (H.at_ 43 (d := 156) rfl (he ⟨43, .data⟩ (by simp) rfl))
              have hrow := H.inv.2.1 hl
              obtain ⟨i0, hi0, hz, hz1, hz2⟩ := info_parts Tryz.info67
              refine wp_append_lies wx (.tmp 114) (.tmp 156) 61 rfl (X + 1) 67 i0 _ 10 152 Tryz.underlying61 hi0 hz hz1 hz2 rfl (by decide) V la.length (la.flatMap aCells) hV hrow ⟨g, 0, none⟩ 1 1 (aCells a) e1 rfl (World.news_of_block e2) (aCells_one a) (by omega) (by unfold maxLen; omega) (by omega) (Nat.le_trans hXs H.inv.1.size) _ rfl ?_
              intro g2 cap w' h1 h2 _ _
              have hr2 : w'.ownsRow (X + 1) 67 10 (.slice (some ⟨g2, 0, none⟩) (la.length + 1) cap) (la ++ [a]).length ((la ++ [a]).flatMap aCells) := by
                rw [List.length_append, List.flatMap_append]
                simpa using h1
              refine ⟨_, rfl, hr2, ?_, ?_⟩
              · intro j u hlj hu
                refine QK.grown h2 hVlt _ u ?_ hu
                exact not_row9 (fun e => by subst e; rw [hl] at hlj; cases hlj)
              · refine ⟨H.inv.1.grown h2 (fun i hi _ => .inr hi), fun e => ?_, fun e => ?_, fun e => ?_⟩
                · rw [getD_set_same (by rw [H.size]; decide)] at e; cases e
                · rw [getD_set_other (by decide)] at e
                  have hb := H.inv.2.2.1 n46
                  unfold Box at hb ⊢
                  rw [h2.block X (heap_lt hb) (fun e => hVX2 e.symm)]
                  exact hb
                · rw [getD_set_other (by decide), n46] at e; cases e
            · cases ho
              refine wpOp_plain rfl rfl ?_
              exact op_val (ex_fa63 (.tmp 6) X rfl ((H.base 6 (by rfl)).trans rfl)) (JX.pure (L := L9 X V A a la) 45 (by decide) (by decide) H.inv rfl)
            · cases ho
              refine wpOp_plain rfl rfl ?_
              have hrow := (H.at_ 44 (d := 157) rfl (he ⟨44, .data⟩ (by simp) rfl))
              have hp := (H.at_ 45 (d := 158) rfl (he ⟨45, .data⟩ (by simp) rfl))
              obtain ⟨A2, c2, hsh⟩ := own_shape hrow
              have hbx := H.inv.2.2.1 hl
              refine op_skip (ex_store61 (.tmp 158) (.tmp 157) X 15 _ _ rfl hp rfl ⟨_, _, _, hsh⟩ (hbx.cell 15 rfl) (hbx.frozen 15)) ?_
              refine ⟨_, rfl, trivial, ?_, ?_⟩
              · intro j u hlj hu
                by_cases hj : j = 44
                · subst hj; exact row_setX hu (Nat.lt_succ_self X)
                · exact QK.setX hXlt _ u (not_row9 hj) hu
              · refine ⟨H.inv.1.setCell _ _ (fun _ => .inl rfl), fun e => ?_, fun e => ?_, fun e => ?_⟩
                · rw [getD_set_other (by decide)] at e
                  exact row_setX (H.inv.2.1 e) (Nat.lt_succ_self X)
                · rw [getD_set_same (by rw [H.size]; decide)] at e; cases e
                · exact ⟨_, row_setX hrow (Nat.lt_succ_self X), hbx.set 15 _⟩
          · intro vals listed wx hv hall hJ
            have h46 := hall 46 (by decide)
            rw [h46] at hJ
            obtain ⟨V', hrow', hbx'⟩ := hJ.2.2.2 rfl
            have HVX : Hid (VX w5 wx X v V' ((ats.filter v.has).take (q + 1))) := by
              show VX _ _ _ _ _ _
              rw [HT.out]
              exact ⟨hVX.out.chg.trans (hJ.1.mono (fun i _ e => by rcases e with rfl | e; exact hXX; have := hVge i e; omega)), hXX, hbx', hrow'⟩
            clear hv hall hJ h46 hrow' hbx' hVX HT
            simp only [fill, DL9, List.foldl_cons, List.foldl_nil, Act.put, List.setIfInBounds_toArray, List.set_cons_zero, List.set_cons_succ]
            go_wp2_with fail
            go_roundg (ps.length - (q + 1))
            case measure => omega
            case rel => exact ⟨q + 1, V', by omega, by go_num, HVX.out⟩
        · obtain rfl : q = ps.length := by omega
          have hgeq : ¬ (ps.length : Int) < (ps.length : Int) := by omega
          rw [List.take_of_length_le (by rw [hPR.out.len]; exact Nat.le_refl _)] at hVX
          obtain ⟨lf, hlf⟩ : ∃ lf, lf = ats.filter v.has := ⟨_, rfl⟩
          rw [← hlf] at hVX
          have hM5 : M < w5.heap.size := hbM.out.lt
          have hbM7 : Box w7 M 31 (mCells rv ver ind) := hbM.out.chg hVX.out.chg (by omega)
          have hR7 : Hid (Box w7 w.heap.size 31 (mCells nilS 0 false)) := hR.out.chg hVX.out.chg (by have := hR.out.lt; omega)
          have hMR7 : MRow w7 (M + 1) rv (vs.take k) ats := hMR.out.chg hVX.out.chg (fun i hi => hi)
          obtain ⟨als, hals, hrv, hals2⟩ := hMR7
          obtain ⟨A3, c3, rfl⟩ := own_shape hVX.out.row
          obtain ⟨A4, c4, rfl⟩ := own_shape hrv
          have m0 := hbM7.cell 0 rfl
          have x0 := hVX.out.box.cell 0 rfl
          have x1 := hVX.out.box.cell 1 rfl
          have x2 := hVX.out.box.cell 2 rfl
          have x3 := hVX.out.box.cell 3 rfl
          have x4 := hVX.out.box.cell 4 rfl
          have x5 := hVX.out.box.cell 5 rfl
          have x6 := hVX.out.box.cell 6 rfl
          have x7 := hVX.out.box.cell 7 rfl
          have x8 := hVX.out.box.cell 8 rfl
          have x9 := hVX.out.box.cell 9 rfl
          have x10 := hVX.out.box.cell 10 rfl
          have x11 := hVX.out.box.cell 11 rfl
          have x12 := hVX.out.box.cell 12 rfl
          have x13 := hVX.out.box.cell 13 rfl
          have x14 := hVX.out.box.cell 14 rfl
          have x15 := hVX.out.box.cell 15 rfl
          have hlk : (vs.take k).length ≤ 1000 := Nat.le_trans (List.length_take_le _ _) (by omega)
          have hMs : M + 1 ≤ w7.heap.size := by have := hbM7.lt; omega
          have HTk : Hid (vs.take (k + 1) = vs.take k ++ [v]) := by
            have hkv : k < vs.length := by rw [HAD.out.len]; exact hlt
            show _ = _
            rw [List.take_succ_eq_append_getElem hkv]
            have := HKV.out.2
            rw [List.getElem?_eq_getElem hkv] at this
            simp only [Option.some.injEq] at this
            rw [this]
          obtain ⟨lk, hlk2⟩ : ∃ lk, lk = vs.take k := ⟨_, rfl⟩
          rw [← hlk2] at hals hrv hals2 HTk hlk m0 hbM7
          have HT := HTk
          have HVF : Hid (w7.ownsRow (X + 1) 67 10 (.slice A3 lf.length c3) (ats.filter v.has).length ((ats.filter v.has).flatMap aCells)) := by
            show World.ownsRow _ _ _ _ _ _ _
            rw [← hlf]; exact hVX.out.row
          clear hlk2 HTk hlf
          have H7 := Lib.hid (And.intro hals (And.intro hrv (And.intro hals2 hbM7)))
          clear hals hrv hals2 hbM7 hMR hbM hR
          have hMW : w.heap.size < M := by have := hM.out; omega
          go_wp2_with (at_builtin; go_loud (refine wpList_append_lies _ rfl _ _ 29 rfl (M + 1) 63 i0 (.agg xZero.toArray) 16 216 Tryz.underlying29 HI0.out.1 HI0.out.2.1 HI0.out.2.2.1 HI0.out.2.2.2 rfl (by decide) (.slice A4 lk.length c4) lk.length _ rfl (H7.out.2.1.alloc _) ⟨w7.heap.size, 0, none⟩ 1 1 (xCells v (.slice A3 lf.length c3)) rfl rfl (World.news_of_block (t := 63) (fr := (0, 0)) (heap_alloc_new _ _)) (xCells_one _ _ _ _) (by omega) (by unfold maxLen; omega) (by omega) (by simp; omega) _ rfl ?_); intro g3 cap3 w9 hown hgrow _ _; have hC9 : Chg (fun i => (Value.slice A4 lk.length c4).ownBlock = some i) w7 w9 := ((Chg.refl _ w7).alloc _).trans ⟨hgrow.os, hgrow.tape, hgrow.output, hgrow.size, fun i hi hn => hgrow.block i hi (fun e => hn e.symm)⟩; have hge9 : ∀ i, (Value.slice A4 lk.length c4).ownBlock = some i → M + 1 ≤ i := fun i e => (World.ownsRow.lt H7.out.2.1 i e).1; have hbM9 := H7.out.2.2.2.chg hC9 (fun e => by have := hge9 _ e; omega); have m9 := hbM9.cell 0 rfl; have f9 := hbM9.frozen 0; have R9 : Hid (MRow w9 (M + 1) (.slice (some ⟨g3, 0, none⟩) (lk.length + 1) cap3) (vs.take (k + 1)) ats) := (by show MRow _ _ _ _ _; rw [HT.out]; exact MRow.next H7.out.1 H7.out.2.1 H7.out.2.2.1 (row_mono HVF.out (by have := hX.out; omega)) hC9 hown); have Q9 := Lib.hid hbM9; have B9 : Hid (Below w.heap.size w w9) := (hBe.out.trans (hVX.out.chg.toBelow hBe.out.size (fun i hi => Nat.le_trans hBe.out.size hi))).trans (hC9.toBelow (Nat.le_trans (Nat.le_trans hBe.out.size hVX.out.chg.size) (Nat.le_refl _)) (fun i hi => by have := hge9 i hi; omega)); have Z9 : Hid (Box w9 w.heap.size 31 (mCells nilS 0 false)) := hR7.out.chg hC9 (fun e => by have := hge9 _ e; omega); clear hown hgrow hC9 hge9 hbM9)
          go_roundg (vbs.length - (k + 1))
          case measure => omega
          case rel => exact ⟨k + 1, _, by omega, by go_num, B9.out.trans (((Chg.refl (fun i => i = M) w9).setCell ⟨M, 0, none⟩ _ (fun _ => rfl)).toBelow B9.out.size (fun i hi => by omega)), Z9.out.chg ((Chg.refl (fun i => i = M) w9).setCell ⟨M, 0, none⟩ _ (fun _ => rfl)) (by omega), Q9.out.set 0 _, R9.out.setX (Nat.lt_succ_self M)⟩
    · obtain rfl : k = vbs.length := by omega
      have hge : ¬ (vbs.length : Int) < (vbs.length : Int) := by omega
      rw [List.take_of_length_le (by rw [HAD.out.len]; exact Nat.le_refl _)] at hMR
      obtain ⟨A4, c4, rfl⟩ : ∃ A c, rv = .slice A vs.length c := by
        obtain ⟨als, _, hrv, _⟩ := hMR.out
        exact own_shape hrv
      have r0 := hR.out.cell 0 rfl
      have r1 := hR.out.cell 1 rfl
      have r2 := hR.out.cell 2 rfl
      have r3 := hR.out.cell 3 rfl
      have f0 := hR.out.frozen 0
      have f1 := hR.out.frozen 1
      have f2 := hR.out.frozen 2
      have f3 := hR.out.frozen 3
      have m0 := hbM.out.cell 0 rfl
      have m1 := hbM.out.cell 1 rfl
      have m2 := hbM.out.cell 2 rfl
      have m3 := hbM.out.cell 3 rfl
      have hMW : w.heap.size < M := by have := hM.out; omega
      go_wp2_with fail
      have hz := sets_box (mCells (.slice A4 vs.length c4) ver ind) 0 w5 _ hR.out
      rw [setl_eq _ _ _ (by rfl)] at hz
      have hc := sets_chg w.heap.size (mCells (.slice A4 vs.length c4) ver ind) 0 w5
      change bodyPost _ _ _ _ _ (sets w.heap.size 0 (mCells (.slice A4 vs.length c4) ver ind) w5)
      generalize sets w.heap.size 0 (mCells (.slice A4 vs.length c4) ver ind) w5 = wz at hz hc ⊢
      have hMz : MRow wz (M + 1) (.slice A4 vs.length c4) vs ats := by
        obtain ⟨als, h1, h2, h3⟩ := hMR.out
        exact ⟨als, h1, own_chg h2 hc (fun i hi e => by have := (World.ownsRow.lt h2 i hi).1; omega), fun i v al e1 e2 => own_chg (h3 i v al e1 e2) hc (fun j hj e => by have := (World.ownsRow.lt (h3 i v al e1 e2) j hj).1; omega)⟩
      have hBz : Below w.heap.size w wz := hBe.out.trans (hc.toBelow hBe.out.size (fun i hi => by omega))
      have z0 := hz.cell 0 rfl
      have z1 := hz.cell 1 rfl
      have z2 := hz.cell 2 rfl
      have z3 := hz.cell 3 rfl
      have HZ := Lib.hid (And.intro hMz hBz)
      clear hMz hBz hz hc r0 r1 r2 r3 f0 f1 f2 f3 m0 m1 m2 m3 hMR hBe hR hbM
      (try simp only [Exit.inBlock, Exit.then])
      refine bodyPost_ret (by simp [results, Tryz.results16, go_sem, z0, z1, z2, z3]; try rfl) rfl ?_
      exact ⟨_, rfl, HZ.out.1.mono (by omega), HZ.out.2⟩
end Go.Proofs.YtelkphcbopbhoaaGreatDoor
