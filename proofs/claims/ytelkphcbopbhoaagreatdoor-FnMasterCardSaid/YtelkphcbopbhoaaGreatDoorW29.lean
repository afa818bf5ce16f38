/-
  Walks: the renditions are handed to the variants.
-/
import Derived.Test.YtelkphcbopbhoaaGreatDoorW28
import Derived.Test.YtelkphcbopbhoaaGreatDoorW20
import Derived.Deep.CutRange
import Derived.Deep.QuietTactic
import Derived.BigQuiet
namespace Go.Proofs.YtelkphcbopbhoaaGreatDoor
open Go Go.RowKit

theorem has_cases {a : Alt} (hg : a.Good) (v : Vrt) :
    ((!(v.video == []) && a.type == kVIDEO && v.video == a.group) = (a.type == kVIDEO && v.video == a.group)) ∧ ((!(v.audio == []) && a.type == kAUDIO && v.audio == a.group) = (a.type == kAUDIO && v.audio == a.group)) ∧ ((!(v.subs == []) && a.type == kSUBS && v.subs == a.group) = (a.type == kSUBS && v.subs == a.group)) := by
  have h : ∀ x : Bs, (x == a.group) = true → (x == []) = false := by
    intro x hx
    rw [eq_of_beq hx]
    rcases hg.group with h | h <;> rw [h] <;> rfl
  have hh : ∀ (x : Bs) (t : Bool), (!(x == []) && t && x == a.group) = (t && x == a.group) := by
    intro x t
    cases e : (x == a.group)
    · simp
    · rw [h x e]; simp
  exact ⟨hh _ _, hh _ _, hh _ _⟩
/-- What the four tests add up to. -/
theorem sel_four {a : Alt} (hg : a.Good) (v : Vrt) (A : Nat) (ps : List Nat) :
    ps ++ (if (!(v.video == []) && a.type == kVIDEO && v.video == a.group) = true then [A] else []) ++ (if (!(v.audio == []) && a.type == kAUDIO && v.audio == a.group) = true then [A] else []) ++ (if (!(v.subs == []) && a.type == kSUBS && v.subs == a.group) = true then [A] else []) = ps ++ (if v.has a then [A] else []) := by
  obtain ⟨h1, h2, h3⟩ := has_cases hg v
  rw [h1, h2, h3]
  unfold Vrt.has
  rcases hg.type with h | h | h
  · rw [h]
    have e1 : (kAUDIO == kAUDIO) = true := by decide
    have e2 : (kAUDIO == kVIDEO) = false := by decide
    have e3 : (kAUDIO == kSUBS) = false := by decide
    simp only [e1, e2, e3, Bool.true_and, Bool.false_and, Bool.or_false, Bool.false_eq_true, if_false, List.append_nil]
  · rw [h]
    have e1 : (kVIDEO == kAUDIO) = false := by decide
    have e2 : (kVIDEO == kVIDEO) = true := by decide
    have e3 : (kVIDEO == kSUBS) = false := by decide
    simp only [e1, e2, e3, Bool.true_and, Bool.false_and, Bool.or_false, Bool.false_or, Bool.false_eq_true, if_false, List.append_nil]
  · rw [h]
    have e1 : (kSUBS == kAUDIO) = false := by decide
    have e2 : (kSUBS == kVIDEO) = false := by decide
    have e3 : (kSUBS == kSUBS) = true := by decide
    simp only [e1, e2, e3, Bool.true_and, Bool.false_and, Bool.false_or, Bool.false_eq_true, if_false, List.append_nil]

set_option maxRecDepth 100000 in
set_option maxHeartbeats 4000000 in
theorem attach_any {B P St : Nat} {vv va : Value} {cp0 : Value} {cp cs : List Value} {vbs abs : List Nat} {vs : List Vrt} {ats : List Alt} {w : World} (h : HD w B P St vv va (vv :: cp) cs vbs vs abs ats) (hB : B ≤ w.heap.size) (hg : ∀ a ∈ ats, a.Good) (hvl : vbs.length ≤ 1000) (hal : abs.length ≤ 1000) :
    Calls Tryz.prog 36 #[ptr P, va] w fun e w' => e = .returned (.tuple #[]) ∧ AD w' B P vv va (vv :: cp) vbs vs abs ats vbs.length ∧ Chg (fun i => B ≤ i) w w' := by
  have hAD := AD.start h
  obtain ⟨A1, c1, rfl⟩ := own_shape hAD.vr
  obtain ⟨A2, c2, rfl⟩ := own_shape hAD.a.row
  have d0 := hAD.p.cell 0 rfl
  have H := Lib.hid (And.intro hAD (And.intro hB hg))
  have hv2 : (vbs.length : Int) ≤ 1000 := by omega
  have ha2 : (abs.length : Int) ≤ 1000 := by omega
  obtain ⟨i0, hi0, hz, hz1, hz2⟩ := info_parts Tryz.info95
  have HI0 := Lib.hid (And.intro hi0 (And.intro hz (And.intro hz1 hz2)))
  clear hAD h hB hg hi0 hz hz1 hz2
  unfold ptr
  go_enter Tryz.func36, Tryz.ntmps36
  go_wp2_with fail
  clear d0
  go_loopg [13] vbs.length (fun gk i wr => ∃ (k : Nat), k + gk = vbs.length ∧ i = .int .i64 k ∧ Hid (AD wr B P (.slice A1 vbs.length c1) (.slice A2 abs.length c2) (.slice A1 vbs.length c1 :: cp) vbs vs abs ats k) ∧ Hid (Chg (fun i => B ≤ i) w wr))
  case atStart => exact ⟨0, by omega, rfl, H.out.1, Chg.refl _ _⟩
  case round =>
    obtain ⟨k, hk, rfl, hAD, hC⟩ := hrel
    rename World => w1
    by_cases hlt : k < vbs.length
    · have hlt' : (k : Int) < (vbs.length : Int) := by omega
      have hBr : B ≤ w1.heap.size := Nat.le_trans H.out.2.1 hC.out.size
      obtain ⟨b, hb⟩ : ∃ b, vbs[k]? = some b := ⟨_, List.getElem?_eq_getElem hlt⟩
      obtain ⟨v, hv⟩ : ∃ v, vs[k]? = some v := ⟨_, List.getElem?_eq_getElem (by rw [hAD.out.len]; exact hlt)⟩
      obtain ⟨g, cap, hgv, hg1, hg2⟩ := World.ownsRow.form hAD.out.vr (by omega)
      cases hgv
      have q0 : w1.cell? ⟨g, k, none⟩ = some (.pointer (some ⟨b, 0, none⟩)) := by
        exact own_cell hAD.out.vr (by simp [hb, ptr])
      have hVA : VA w1 w1 b v nilS [] := VA.start (hAD.out.old k b v hb hv (Nat.le_refl _))
      have HKV := Lib.hid (And.intro hb hv)
      clear hb hv
      go_wp2_with fail
      clear q0
      go_loopg [19] abs.length (fun gq i wx => ∃ (q : Nat), q + gq = abs.length ∧ i = .int .i64 q ∧ ∃ al, Hid (VA w1 wx b v al (sel v (abs.take q) (ats.take q))))
      case atStart => exact ⟨0, by omega, rfl, nilS, hVA⟩
      case round =>
        clear hVA
        obtain ⟨q, hq, rfl, al, hVA⟩ := hrel
        by_cases hlq : q < abs.length
        · have hlq' : (q : Int) < (abs.length : Int) := by omega
          obtain ⟨A, hA⟩ : ∃ A, abs[q]? = some A := ⟨_, List.getElem?_eq_getElem hlq⟩
          obtain ⟨a, ha⟩ : ∃ a, ats[q]? = some a := ⟨_, List.getElem?_eq_getElem (by rw [hAD.out.a.len]; exact hlq)⟩
          have haG : a.Good := H.out.2.2 a (List.mem_of_getElem? ha)
          have hap : PRow wr B 95 97 aCells (.slice A2 abs.length c2) abs ats := hAD.out.a.chgB (hAD.out.old k b v HKV.out.1 HKV.out.2 (Nat.le_refl _)) (by decide) (by decide) hVA.out.chg (fun i e => e)
          obtain ⟨g2, cap2, hgv2, hg3, hg4⟩ := World.ownsRow.form hap.row (by omega)
          cases hgv2
          have q1 : wr.cell? ⟨g2, q, none⟩ = some (.pointer (some ⟨A, 0, none⟩)) := by
            exact own_cell hap.row (by simp [hA, ptr])
          have HX := Lib.hid (And.intro hA (And.intro ha haG))
          have BA := Lib.hid (hap.box q A a hA ha)
          clear hap hA ha haG
          go_upto_region 7 with fail
          clear q1
          rename World => w2
          go_cut [49] from 25 to 49 (fun s wx => s = .bool (!(v.video == []) && a.type == kVIDEO && v.video == a.group) ∧ Hid (VA w1 wx b v al ((sel v (abs.take q) (ats.take q)))))
          case first =>
            have z := hVA.out.box.cell 8 rfl
            have hbA := hVA.out.alt hAD.out HKV.out.1 HKV.out.2 HX.out.1 HX.out.2.1
            have y0 := hbA.cell 0 rfl
            have y2 := hbA.cell 2 rfl
            clear hbA
            have n0 : ((S v.video).toList == ([] : List UInt8)) = (v.video == []) := by rw [ba_toList, S_list]
            have t1 : ((S a.type).toList == ([86, 73, 68, 69, 79] : List UInt8)) = (a.type == kVIDEO) := by rw [ba_toList, S_list]; rfl
            have t2 : ((S v.video).toList == (S a.group).toList) = (v.video == a.group) := by rw [ba_toList, ba_toList]; rfl
            cases e0 : (v.video == [])
            · rw [e0] at n0
              cases e1 : (a.type == kVIDEO)
              · rw [e1] at t1
                go_quiet (fail)
                go_wp2_with fail
                go_meet
                case rel => exact ⟨by first | rfl | simp [*], hVA.out.drewN _⟩
              · rw [e1] at t1
                cases e2 : (v.video == a.group)
                · rw [e2] at t2
                  go_quiet (fail)
                  go_wp2_with fail
                  go_meet
                  case rel => exact ⟨by first | rfl | simp [*], hVA.out.drewN _⟩
                · rw [e2] at t2
                  go_quiet (fail)
                  go_wp2_with fail
                  go_meet
                  case rel => exact ⟨by first | rfl | simp [*], hVA.out.drewN _⟩
            · rw [e0] at n0
              go_quiet (fail)
              go_wp2_with fail
              go_meet
              case rel => exact ⟨by first | rfl | simp [*], hVA.out.drewN _⟩
          case rest =>
          clear hVA
          obtain ⟨rfl, hVA⟩ := hcut
          go_upto_if 49 with fail
          rename World => w2
          go_cut [50] from 49 to 61 (fun _ wx => ∃ al, Hid (VA w1 wx b v al ((sel v (abs.take q) (ats.take q)) ++ (if (!(v.video == []) && a.type == kVIDEO && v.video == a.group) = true then [A] else []))))
          case first =>
            have hlen := sel_len v (abs.take q) (ats.take q)
            have hlen2 : (abs.take q).length ≤ 1000 := Nat.le_trans (List.length_take_le _ _) (by omega)
            obtain ⟨ps, hps⟩ : ∃ ps, ps = (sel v (abs.take q) (ats.take q)) := ⟨_, rfl⟩
            rw [← hps] at hVA
            have hlp : ps.length ≤ 1010 := by rw [hps]; omega
            have HPS := Lib.hid hps
            clear hlen hlen2 hps
            obtain ⟨cb, hcb⟩ : ∃ cb, (!(v.video == []) && a.type == kVIDEO && v.video == a.group) = cb := ⟨_, rfl⟩
            rw [hcb]
            have HCB := Lib.hid hcb
            clear hcb
            cases cb
            · go_wp2_with fail
              go_meet
              case rel => exact ⟨_, by rw [← HPS.out, HCB.out, if_neg (by decide), List.append_nil]; exact hVA⟩
            · have d16 := hVA.out.box.cell 16 rfl
              go_wp2_with (at_builtin; go_loud (refine wpList_append_lies _ rfl _ _ 90 rfl w1.heap.size 95 i0 (.pointer none) 1 8 Tryz.underlying90 HI0.out.1 HI0.out.2.1 HI0.out.2.2.1 HI0.out.2.2.2 rfl (by decide) al ps.length (ps.map ptr) rfl (hVA.out.row.alloc _) ⟨w2.heap.size, 0, none⟩ 1 1 [ptr A] rfl rfl (World.news_of_block (t := 95) (fr := (0, 0)) (heap_alloc_new _ _)) (by intro u hu; rw [List.mem_singleton.1 hu]; rfl) (by omega) (by unfold maxLen; omega) (by omega) (by have := hVA.out.chg.size; simp; omega) _ rfl ?_); intro g3 cap3 w5 hown hgrow _ _; have hC5 : Chg (fun i => al.ownBlock = some i) w2 w5 := ((Chg.refl _ w2).alloc _).trans ⟨hgrow.os, hgrow.tape, hgrow.output, hgrow.size, fun i hi hn => hgrow.block i hi (fun e => hn e.symm)⟩; have hb5 := hVA.out.box.chg hC5 (fun e => row_ne_box hVA.out.row hVA.out.box (by decide) e); have d5 := hb5.cell 16 rfl; have f5 := hb5.frozen 16; have R5 := Lib.hid (hVA.out.app hown hC5); clear hown hgrow hC5 hb5 d16)
              go_meet
              case rel => exact ⟨_, by rw [← HPS.out, HCB.out, if_pos rfl]; exact R5⟩
          case rest =>
          clear hVA
          obtain ⟨al, hVA⟩ := hcut
          go_upto_region 9 with fail
          rename World => w2
          go_cut [86] from 62 to 86 (fun s wx => s = .bool (!(v.audio == []) && a.type == kAUDIO && v.audio == a.group) ∧ Hid (VA w1 wx b v al ((sel v (abs.take q) (ats.take q)) ++ (if (!(v.video == []) && a.type == kVIDEO && v.video == a.group) = true then [A] else []))))
          case first =>
            have z := hVA.out.box.cell 7 rfl
            have hbA := hVA.out.alt hAD.out HKV.out.1 HKV.out.2 HX.out.1 HX.out.2.1
            have y0 := hbA.cell 0 rfl
            have y2 := hbA.cell 2 rfl
            clear hbA
            have n0 : ((S v.audio).toList == ([] : List UInt8)) = (v.audio == []) := by rw [ba_toList, S_list]
            have t1 : ((S a.type).toList == ([65, 85, 68, 73, 79] : List UInt8)) = (a.type == kAUDIO) := by rw [ba_toList, S_list]; rfl
            have t2 : ((S v.audio).toList == (S a.group).toList) = (v.audio == a.group) := by rw [ba_toList, ba_toList]; rfl
            cases e0 : (v.audio == [])
            · rw [e0] at n0
              cases e1 : (a.type == kAUDIO)
              · rw [e1] at t1
                go_quiet (fail)
                go_wp2_with fail
                go_meet
                case rel => exact ⟨by first | rfl | simp [*], hVA.out.drewN _⟩
              · rw [e1] at t1
                cases e2 : (v.audio == a.group)
                · rw [e2] at t2
                  go_quiet (fail)
                  go_wp2_with fail
                  go_meet
                  case rel => exact ⟨by first | rfl | simp [*], hVA.out.drewN _⟩
                · rw [e2] at t2
                  go_quiet (fail)
                  go_wp2_with fail
                  go_meet
                  case rel => exact ⟨by first | rfl | simp [*], hVA.out.drewN _⟩
            · rw [e0] at n0
              go_quiet (fail)
              go_wp2_with fail
              go_meet
              case rel => exact ⟨by first | rfl | simp [*], hVA.out.drewN _⟩
          case rest =>
          clear hVA
          obtain ⟨rfl, hVA⟩ := hcut
          go_upto_if 86 with fail
          rename World => w2
          go_cut [87] from 86 to 98 (fun _ wx => ∃ al, Hid (VA w1 wx b v al ((sel v (abs.take q) (ats.take q)) ++ (if (!(v.video == []) && a.type == kVIDEO && v.video == a.group) = true then [A] else []) ++ (if (!(v.audio == []) && a.type == kAUDIO && v.audio == a.group) = true then [A] else []))))
          case first =>
            have hlen := sel_len v (abs.take q) (ats.take q)
            have hlen2 : (abs.take q).length ≤ 1000 := Nat.le_trans (List.length_take_le _ _) (by omega)
            have hl0 := ite_len ((sel v (abs.take q) (ats.take q))) A ((!(v.video == []) && a.type == kVIDEO && v.video == a.group))
            obtain ⟨ps, hps⟩ : ∃ ps, ps = (sel v (abs.take q) (ats.take q)) ++ (if (!(v.video == []) && a.type == kVIDEO && v.video == a.group) = true then [A] else []) := ⟨_, rfl⟩
            rw [← hps] at hVA
            have hlp : ps.length ≤ 1010 := by rw [hps]; omega
            have HPS := Lib.hid hps
            clear hlen hlen2 hps hl0
            obtain ⟨cb, hcb⟩ : ∃ cb, (!(v.audio == []) && a.type == kAUDIO && v.audio == a.group) = cb := ⟨_, rfl⟩
            rw [hcb]
            have HCB := Lib.hid hcb
            clear hcb
            cases cb
            · go_wp2_with fail
              go_meet
              case rel => exact ⟨_, by rw [← HPS.out, HCB.out, if_neg (by decide), List.append_nil]; exact hVA⟩
            · have d16 := hVA.out.box.cell 16 rfl
              go_wp2_with (at_builtin; go_loud (refine wpList_append_lies _ rfl _ _ 90 rfl w1.heap.size 95 i0 (.pointer none) 1 8 Tryz.underlying90 HI0.out.1 HI0.out.2.1 HI0.out.2.2.1 HI0.out.2.2.2 rfl (by decide) al ps.length (ps.map ptr) rfl (hVA.out.row.alloc _) ⟨w2.heap.size, 0, none⟩ 1 1 [ptr A] rfl rfl (World.news_of_block (t := 95) (fr := (0, 0)) (heap_alloc_new _ _)) (by intro u hu; rw [List.mem_singleton.1 hu]; rfl) (by omega) (by unfold maxLen; omega) (by omega) (by have := hVA.out.chg.size; simp; omega) _ rfl ?_); intro g3 cap3 w5 hown hgrow _ _; have hC5 : Chg (fun i => al.ownBlock = some i) w2 w5 := ((Chg.refl _ w2).alloc _).trans ⟨hgrow.os, hgrow.tape, hgrow.output, hgrow.size, fun i hi hn => hgrow.block i hi (fun e => hn e.symm)⟩; have hb5 := hVA.out.box.chg hC5 (fun e => row_ne_box hVA.out.row hVA.out.box (by decide) e); have d5 := hb5.cell 16 rfl; have f5 := hb5.frozen 16; have R5 := Lib.hid (hVA.out.app hown hC5); clear hown hgrow hC5 hb5 d16)
              go_meet
              case rel => exact ⟨_, by rw [← HPS.out, HCB.out, if_pos rfl]; exact R5⟩
          case rest =>
          clear hVA
          obtain ⟨al, hVA⟩ := hcut
          go_upto_region 11 with fail
          rename World => w2
          go_cut [123] from 99 to 123 (fun s wx => s = .bool false ∧ Hid (VA w1 wx b v al ((sel v (abs.take q) (ats.take q)) ++ (if (!(v.video == []) && a.type == kVIDEO && v.video == a.group) = true then [A] else []) ++ (if (!(v.audio == []) && a.type == kAUDIO && v.audio == a.group) = true then [A] else []))))
          case first =>
            have z := hVA.out.box.cell 10 rfl
            have hbA := hVA.out.alt hAD.out HKV.out.1 HKV.out.2 HX.out.1 HX.out.2.1
            have y0 := hbA.cell 0 rfl
            have y2 := hbA.cell 2 rfl
            clear hbA
            have n0 : ((S v.caps).toList == ([] : List UInt8)) = (v.caps == []) := by rw [ba_toList, S_list]
            have t1 : ((S a.type).toList == ([67, 76, 79, 83, 69, 68, 45, 67, 65, 80, 84, 73, 79, 78, 83] : List UInt8)) = false := by rw [ba_toList, S_list]; rcases HX.out.2.2.type with h | h | h <;> rw [h] <;> rfl
            have t2 : ((S v.caps).toList == (S a.group).toList) = (v.caps == a.group) := by rw [ba_toList, ba_toList]; rfl
            cases e0 : (v.caps == [])
            · rw [e0] at n0
              go_quiet (fail)
              go_wp2_with fail
              go_meet
              case rel => exact ⟨rfl, hVA.out.drewN _⟩
            · rw [e0] at n0
              go_quiet (fail)
              go_wp2_with fail
              go_meet
              case rel => exact ⟨rfl, hVA.out.drewN _⟩
          case rest =>
          clear hVA
          obtain ⟨rfl, hVA⟩ := hcut
          go_upto_region 13 with fail
          rename World => w2
          go_cut [160] from 136 to 160 (fun s wx => s = .bool (!(v.subs == []) && a.type == kSUBS && v.subs == a.group) ∧ Hid (VA w1 wx b v al ((sel v (abs.take q) (ats.take q)) ++ (if (!(v.video == []) && a.type == kVIDEO && v.video == a.group) = true then [A] else []) ++ (if (!(v.audio == []) && a.type == kAUDIO && v.audio == a.group) = true then [A] else []))))
          case first =>
            have z := hVA.out.box.cell 9 rfl
            have hbA := hVA.out.alt hAD.out HKV.out.1 HKV.out.2 HX.out.1 HX.out.2.1
            have y0 := hbA.cell 0 rfl
            have y2 := hbA.cell 2 rfl
            clear hbA
            have n0 : ((S v.subs).toList == ([] : List UInt8)) = (v.subs == []) := by rw [ba_toList, S_list]
            have t1 : ((S a.type).toList == ([83, 85, 66, 84, 73, 84, 76, 69, 83] : List UInt8)) = (a.type == kSUBS) := by rw [ba_toList, S_list]; rfl
            have t2 : ((S v.subs).toList == (S a.group).toList) = (v.subs == a.group) := by rw [ba_toList, ba_toList]; rfl
            cases e0 : (v.subs == [])
            · rw [e0] at n0
              cases e1 : (a.type == kSUBS)
              · rw [e1] at t1
                go_quiet (fail)
                go_wp2_with fail
                go_meet
                case rel => exact ⟨by first | rfl | simp [*], hVA.out.drewN _⟩
              · rw [e1] at t1
                cases e2 : (v.subs == a.group)
                · rw [e2] at t2
                  go_quiet (fail)
                  go_wp2_with fail
                  go_meet
                  case rel => exact ⟨by first | rfl | simp [*], hVA.out.drewN _⟩
                · rw [e2] at t2
                  go_quiet (fail)
                  go_wp2_with fail
                  go_meet
                  case rel => exact ⟨by first | rfl | simp [*], hVA.out.drewN _⟩
            · rw [e0] at n0
              go_quiet (fail)
              go_wp2_with fail
              go_meet
              case rel => exact ⟨by first | rfl | simp [*], hVA.out.drewN _⟩
          case rest =>
          clear hVA
          obtain ⟨rfl, hVA⟩ := hcut
          go_upto_if 160 with fail
          rename World => w2
          have hlen := sel_len v (abs.take q) (ats.take q)
          have hlen2 : (abs.take q).length ≤ 1000 := Nat.le_trans (List.length_take_le _ _) (by omega)
          have hl0 := ite_len ((sel v (abs.take q) (ats.take q))) A ((!(v.video == []) && a.type == kVIDEO && v.video == a.group))
          have hl1 := ite_len ((sel v (abs.take q) (ats.take q)) ++ (if (!(v.video == []) && a.type == kVIDEO && v.video == a.group) = true then [A] else [])) A ((!(v.audio == []) && a.type == kAUDIO && v.audio == a.group))
          obtain ⟨ps, hps⟩ : ∃ ps, ps = (sel v (abs.take q) (ats.take q)) ++ (if (!(v.video == []) && a.type == kVIDEO && v.video == a.group) = true then [A] else []) ++ (if (!(v.audio == []) && a.type == kAUDIO && v.audio == a.group) = true then [A] else []) := ⟨_, rfl⟩
          rw [← hps] at hVA
          have hlp : ps.length ≤ 1010 := by rw [hps]; omega
          have HPS := Lib.hid hps
          clear hlen hlen2 hps hl0 hl1
          obtain ⟨cb, hcb⟩ : ∃ cb, (!(v.subs == []) && a.type == kSUBS && v.subs == a.group) = cb := ⟨_, rfl⟩
          rw [hcb]
          have HCB := Lib.hid hcb
          clear hcb
          cases cb
          · go_wp2_with fail
            have hF := hVA.out
            have hE : ps = sel v (abs.take (q + 1)) (ats.take (q + 1)) := by rw [sel_take v abs ats HX.out.1 HX.out.2.1, ← sel_four HX.out.2.2, ← HPS.out, HCB.out, if_neg (by decide), List.append_nil]
            rw [hE] at hF
            go_roundg (abs.length - (q + 1))
            case measure => omega
            case rel => exact ⟨q + 1, by omega, by go_num, _, hF⟩
          · have d16 := hVA.out.box.cell 16 rfl
            go_wp2_with (at_builtin; go_loud (refine wpList_append_lies _ rfl _ _ 90 rfl w1.heap.size 95 i0 (.pointer none) 1 8 Tryz.underlying90 HI0.out.1 HI0.out.2.1 HI0.out.2.2.1 HI0.out.2.2.2 rfl (by decide) al ps.length (ps.map ptr) rfl (hVA.out.row.alloc _) ⟨w2.heap.size, 0, none⟩ 1 1 [ptr A] rfl rfl (World.news_of_block (t := 95) (fr := (0, 0)) (heap_alloc_new _ _)) (by intro u hu; rw [List.mem_singleton.1 hu]; rfl) (by omega) (by unfold maxLen; omega) (by omega) (by have := hVA.out.chg.size; simp; omega) _ rfl ?_); intro g3 cap3 w5 hown hgrow _ _; have hC5 : Chg (fun i => al.ownBlock = some i) w2 w5 := ((Chg.refl _ w2).alloc _).trans ⟨hgrow.os, hgrow.tape, hgrow.output, hgrow.size, fun i hi hn => hgrow.block i hi (fun e => hn e.symm)⟩; have hb5 := hVA.out.box.chg hC5 (fun e => row_ne_box hVA.out.row hVA.out.box (by decide) e); have d5 := hb5.cell 16 rfl; have f5 := hb5.frozen 16; have R5 := Lib.hid (hVA.out.app hown hC5); clear hown hgrow hC5 hb5 d16)
            have hF := R5.out
            have hE : ps ++ [A] = sel v (abs.take (q + 1)) (ats.take (q + 1)) := by rw [sel_take v abs ats HX.out.1 HX.out.2.1, ← sel_four HX.out.2.2, ← HPS.out, HCB.out, if_pos rfl]
            rw [hE] at hF
            go_roundg (abs.length - (q + 1))
            case measure => omega
            case rel => exact ⟨q + 1, by omega, by go_num, _, hF⟩
        · obtain rfl : q = abs.length := by omega
          have hge : ¬ (abs.length : Int) < (abs.length : Int) := by omega
          rw [List.take_of_length_le (Nat.le_refl _), List.take_of_length_le (by rw [hAD.out.a.len]; exact Nat.le_refl _)] at hVA
          have hN := hAD.out.next HKV.out.1 HKV.out.2 hBr hVA.out
          have hCN := hC.out.trans (hVA.out.chg.mono (fun i _ e => by
            rcases e with rfl | e
            · exact hAD.out.ge _ (List.mem_of_getElem? HKV.out.1)
            · omega))
          have HN := Lib.hid (And.intro hN hCN)
          clear hN hCN hVA hAD hC
          go_wp2_with fail
          go_roundg (vbs.length - (k + 1))
          case measure => omega
          case rel => exact ⟨k + 1, by omega, by go_num, HN.out.1, HN.out.2⟩
    · obtain rfl : k = vbs.length := by omega
      have hge : ¬ (vbs.length : Int) < (vbs.length : Int) := by omega
      go_wp2_with fail
      go_end0
      exact ⟨rfl, hAD.out, hC.out⟩
end Go.Proofs.YtelkphcbopbhoaaGreatDoor
