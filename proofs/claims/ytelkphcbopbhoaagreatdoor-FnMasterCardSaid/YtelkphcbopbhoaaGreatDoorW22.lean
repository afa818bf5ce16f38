/-
  Walks: a line of a master playlist, read: the simple ones.
-/
import Derived.Test.YtelkphcbopbhoaaGreatDoorW21
import Derived.Deep.RegionHeld3
import Derived.Deep.RegionWith
namespace Go.Proofs.YtelkphcbopbhoaaGreatDoor
open Go Go.RowKit

set_option maxRecDepth 100000 in
set_option maxHeartbeats 1000000 in
theorem dec_m3u {B0 B P St ver : Nat} {ind m3u inf strict : Bool} {vbs abs : List Nat} {vs : List Vrt} {ats : List Alt} {w : World} (r : Bs) (h : HS w B P St ver ind m3u inf vbs vs abs ats) (hE : EnvAt B0 w)
    (hr : Lib.trimSpace r = tM3U) (hlen : r.length ≤ 100000) (ha : ∀ c ∈ r, c.toNat < 128) :
    Calls Tryz.prog 35 #[ptr P, ptr St, .string (S r), .bool strict] w fun e w' => e = .returned .nilIface ∧ HS w' B P St ver ind true inf vbs vs abs ats ∧ Chg (Sx B P St) w w' := by
  have H := Lib.hid (And.intro h (And.intro hE.env (And.intro hr (And.intro hlen ha))))
  clear h hE hr hlen ha
  unfold ptr
  go_enter Tryz.func35, Tryz.ntmps35
  go_wp2_with fail
  refine (trim_line r tM3U w H.out.2.2.1 H.out.2.2.2.1 H.out.2.2.2.2 H.out.2.1).mono ?_
  rintro e w1 ⟨rfl, hb⟩
  obtain ⟨⟨vv, lt, lv, va, hD, hI⟩, _⟩ := H.out
  have h1 := hD.keep hb
  have hC1 : Chg (Sx B P St) w w1 := (Chg.refl _ w).below hb
  have c1 := h1.s.cell 1 rfl
  have f1 := h1.s.frozen 1
  have t1 : ((S tM3U).toList == ([35, 69, 88, 84, 77, 51, 85] : List UInt8)) = true := by rw [ba_toList, S_list]; rfl
  have HX := Lib.hid (And.intro h1 (And.intro hI hC1))
  clear h1 hI hC1 hb hD
  go_wp2_with fail
  go_ret
  exact ⟨rfl, ⟨vv, lt, lv, va, HX.out.1.setS 1 _, HX.out.2.1⟩, HX.out.2.2.setS 1 _⟩

theorem HD.drew {w : World} {B P St : Nat} {vv va : Value} {cp cs : List Value} {vbs abs : List Nat} {vs : List Vrt} {ats : List Alt} (h : HD w B P St vv va cp cs vbs vs abs ats) : HD w.drew B P St vv va cp cs vbs vs abs ats := by
  obtain ⟨h1, h2, h3, h4, h5, h6, h7⟩ := h
  exact ⟨h1, h2, ⟨h3.row, h3.len, h3.ge, h3.box, h3.nodup⟩, ⟨h4.row, h4.len, h4.ge, h4.box, h4.nodup⟩, h5, h6, h7⟩
theorem dec_digitB (n : Nat) : ∀ c ∈ Lib.decDigits n, digitB c = true := by
  intro c hc
  have := dec_digit n c hc
  simp [digitB, this.1, this.2]
theorem S_drop (l : Bs) (k : Nat) : ((S l).extract k (S l).size).data.toList = l.drop k := Lib.extract_to_end (S l) k

set_option maxRecDepth 100000 in
set_option maxHeartbeats 1000000 in
theorem dec_ver {B0 B P St ver : Nat} {ind m3u inf strict : Bool} {vbs abs : List Nat} {vs : List Vrt} {ats : List Alt} {w : World} (r : Bs) (n : Nat) (h : HS w B P St ver ind m3u inf vbs vs abs ats) (hE : EnvAt B0 w)
    (hr : Lib.trimSpace r = tVER ++ Lib.decDigits n) (hlen : r.length ≤ 100000) (ha : ∀ c ∈ r, c.toNat < 128) (hn : n ≤ 255) :
    Calls Tryz.prog 35 #[ptr P, ptr St, .string (S r), .bool strict] w fun e w' => e = .returned .nilIface ∧ HS w' B P St n ind m3u inf vbs vs abs ats ∧ Chg (Sx B P St) w w' := by
  obtain ⟨l, hl⟩ : ∃ l, l = tVER ++ Lib.decDigits n := ⟨_, rfl⟩
  rw [← hl] at hr
  have hll : (S l).size = 15 + (Lib.decDigits n).length := by show l.length = _; rw [hl, List.length_append]; rfl
  have hdl : (Lib.decDigits n).length ≤ 20 := dec_length_le n 20 (by omega) (by omega)
  have t1 : ((S l).toList == ([35, 69, 88, 84, 77, 51, 85] : List UInt8)) = false := by
    rw [ba_toList, S_list, hl]
    rfl
  have p1 : hasPB ⟨#[35, 69, 88, 84, 45, 88, 45, 86, 69, 82, 83, 73, 79, 78, 58]⟩ l = true := by
    unfold hasPB
    rw [hl]
    exact List.isPrefixOf_iff_prefix.2 (List.prefix_append tVER _)
  have e15 : ((S l).extract 15 (S l).size).data.toList = Lib.decDigits n := by rw [S_drop, hl]; rfl
  have H15 : Hid (∀ c ∈ ((S l).extract 15 (S l).size).data.toList, digitB c = true) := by
    show ∀ c ∈ _, _
    rw [e15]
    exact dec_digitB n
  have H16 : Hid (Lib.parseUintB 64 ((S l).extract 15 (S l).size).data.toList = .ok n) := by
    show _ = _
    rw [e15]
    exact parseUint_dec n (by omega)
  have H17 : Hid (((S l).extract 15 (S l).size).size ≤ 9223372036854775806) := by
    show _ ≤ _
    rw [← ba_size, e15]
    omega
  have i1 : (15 : Int) ≤ ((S l).size : Int) := by omega
  have i2 : ((S l).size : Int) ≤ 1000 := by omega
  have HL := Lib.hid hl
  have H := Lib.hid (And.intro h (And.intro hE.env (And.intro hr (And.intro hlen ha))))
  clear h hE hr hlen ha hl e15 hll hdl
  unfold ptr
  go_enter Tryz.func35, Tryz.ntmps35
  go_wp2_with fail
  refine (trim_line r l w H.out.2.2.1 H.out.2.2.2.1 H.out.2.2.2.2 H.out.2.1).mono ?_
  rintro e w1 ⟨rfl, hb⟩
  obtain ⟨⟨vv, lt, lv, va, hD, hI⟩, _⟩ := H.out
  have h1 := hD.keep hb
  have hC1 : Chg (Sx B P St) w w1 := (Chg.refl _ w).below hb
  have c0 := h1.s.cell 0 rfl
  have f0 := h1.s.frozen 0
  have HX := Lib.hid (And.intro h1 (And.intro hI hC1))
  clear h1 hI hC1 hb hD
  go_upto_region 7 with (go_at_call 46; refine (hasPrefix_all _ _ _).mono ?_; rintro e w' ⟨rfl, rfl⟩)
  obtain ⟨w2, hw2⟩ : ∃ w2, w2 = w1.setCell ⟨St, 0, none⟩ (.int .u64 1) := ⟨_, rfl⟩
  rw [← hw2]
  have h2 : HD w2 B P St vv va (mplCells vv ver ind) (stCells 1 m3u inf lv va) vbs vs abs ats := by rw [hw2]; exact HX.out.1.setS 0 _
  have hC2 : Chg (Sx B P St) w w2 := by rw [hw2]; exact HX.out.2.2.setS 0 _
  have c6 := h2.p.cell 6 rfl
  have H2 := Lib.hid h2
  have HC2 := Lib.hid hC2
  clear h2 hC2 hw2 c0 f0
  go_region_with ((go_at_call 47; refine (uint8_any _ _ n _ H17.out H15 H16 hn).mono ?_; rintro e w3 ⟨rfl, hb3⟩; have h3 := H2.out.drew.keep hb3; have c6' := h3.p.cell 6 rfl; have f6' := h3.p.frozen 6; have H3 := Lib.hid h3; have HB3 := Lib.hid hb3; clear h3 hb3))
  all_goals cases strict
  all_goals
    go_wp2_with fail
    go_ret
    exact ⟨rfl, ⟨vv, 1, lv, va, H3.out.setP 6 _, HX.out.2.1⟩, (HC2.out.drew.below HB3.out).setP 6 _⟩
end Go.Proofs.YtelkphcbopbhoaaGreatDoor
