/-
  Walks: a line of a master playlist, read: a URI, independent segments, nothing.
-/
import Derived.Test.YtelkphcbopbhoaaGreatDoorW22
namespace Go.Proofs.YtelkphcbopbhoaaGreatDoor
open Go Go.RowKit

theorem row_ne_box {w : World} {B pt n b st : Nat} {v : Value} {xs l : List Value} (h : w.ownsRow B pt 1 v n xs) (hb : Box w b st l) (hne : pt ≠ st) : v.ownBlock ≠ some b := by
  intro e
  rcases h.2 with ⟨rfl, _⟩ | ⟨g, cap, cur, rfl, _, h5, _⟩
  · cases e
  · have : g = b := Option.some.inj e
    subst this
    unfold Box at hb
    rw [hb] at h5
    simp only [Option.some.injEq, Obj.cells.injEq] at h5
    exact hne h5.2.1.symm
/-- The last struct is changed. -/
theorem PRow.setLast {α : Type} {w : World} {B pt st : Nat} {cells : α → List Value} {v : Value} {pre : List Nat} {b : Nat} {xs : List α} {x x' : α} (h : PRow w B pt st cells v (pre ++ [b]) (xs ++ [x])) (hne : pt ≠ st) (k : Nat) (u : Value) (hx : cells x' = (cells x).set k u) :
    PRow (w.setCell ⟨b, k, none⟩ u) B pt st cells v (pre ++ [b]) (xs ++ [x']) := by
  have hc : Chg (fun i => i = b) w (w.setCell ⟨b, k, none⟩ u) := (Chg.refl _ w).setCell _ _ (fun _ => rfl)
  have hlen : xs.length = pre.length := by have := h.len; simp at this; omega
  have hbox : Box w b st (cells x) := h.box pre.length b x (by simp) (by rw [← hlen]; simp)
  refine ⟨own_chg h.row hc (fun i hi e => by subst e; exact row_ne_box h.row hbox hne hi), by have := h.len; simpa using this, h.ge, ?_, h.nodup⟩
  intro i c y h1 h2
  by_cases hi : i < pre.length
  · rw [List.getElem?_append_left hi] at h1
    rw [List.getElem?_append_left (by omega)] at h2
    have hcb : c ≠ b := by
      have hn := h.nodup
      rw [List.nodup_append] at hn
      exact hn.2.2 c (List.mem_of_getElem? h1) b (by simp)
    exact (h.box i c y (by rw [List.getElem?_append_left hi]; exact h1) (by rw [List.getElem?_append_left (by omega)]; exact h2)).chg hc hcb
  · have hi2 : i = pre.length := by
      have := (List.getElem?_eq_some_iff.1 h1).1
      simp at this
      omega
    subst hi2
    have e1 : b = c := by simpa using h1
    have e2 : x' = y := by
      rw [← hlen] at h2
      simpa using h2
    subst e1 e2
    rw [hx]
    exact hbox.set k u
theorem PRow.lastBox {α : Type} {w : World} {B pt st : Nat} {cells : α → List Value} {v : Value} {pre : List Nat} {b : Nat} {xs : List α} {x : α} (h : PRow w B pt st cells v (pre ++ [b]) (xs ++ [x])) : Box w b st (cells x) := by
  have hlen : xs.length = pre.length := by have := h.len; simp at this; omega
  exact h.box pre.length b x (by simp) (by rw [← hlen]; simp)
theorem HD.setV {w : World} {B P St : Nat} {vv va : Value} {cp cs : List Value} {pre abs : List Nat} {b : Nat} {vs : List Vrt} {x x' : Vrt} {ats : List Alt} (h : HD w B P St vv va cp cs (pre ++ [b]) (vs ++ [x]) abs ats) (k : Nat) (u : Value) (hx : vCells x' nilS = (vCells x nilS).set k u) :
    HD (w.setCell ⟨b, k, none⟩ u) B P St vv va cp cs (pre ++ [b]) (vs ++ [x']) abs ats := by
  obtain ⟨h1, h2, h3, h4, h5, h6, h7⟩ := h
  have hge : B ≤ b := h3.ge b (by simp)
  have hbox := h3.lastBox
  have hc : Chg (fun i => i = b) w (w.setCell ⟨b, k, none⟩ u) := (Chg.refl _ w).setCell _ _ (fun _ => rfl)
  refine ⟨h1.chg hc (by omega), h2.chg hc (by omega), h3.setLast (by decide) k u hx, h4.chg hc (fun i hi e => ?_) (fun c hcm e => ?_), h5, h6, h7⟩
  · subst e
    exact row_ne_box h4.row hbox (by decide) hi
  · subst e
    obtain ⟨i, hi, rfl⟩ := List.getElem_of_mem hcm
    have hx : i < ats.length := by rw [h4.len]; exact hi
    have hb2 := h4.box i _ ats[i] (List.getElem?_eq_getElem hi) (List.getElem?_eq_getElem hx)
    unfold Box at hbox hb2
    rw [hbox] at hb2
    simp only [Option.some.injEq, Obj.cells.injEq] at hb2
    exact absurd hb2.2.1 (by decide)

set_option maxRecDepth 100000 in
set_option maxHeartbeats 1000000 in
theorem dec_ind {B0 B P St ver : Nat} {ind m3u inf strict : Bool} {vbs abs : List Nat} {vs : List Vrt} {ats : List Alt} {w : World} (r : Bs) (h : HS w B P St ver ind m3u inf vbs vs abs ats) (hE : EnvAt B0 w)
    (hr : Lib.trimSpace r = tIND) (hlen : r.length ≤ 100000) (ha : ∀ c ∈ r, c.toNat < 128) :
    Calls Tryz.prog 35 #[ptr P, ptr St, .string (S r), .bool strict] w fun e w' => e = .returned .nilIface ∧ HS w' B P St ver true m3u inf vbs vs abs ats ∧ Chg (Sx B P St) w w' := by
  have H := Lib.hid (And.intro h (And.intro hE.env (And.intro hr (And.intro hlen ha))))
  clear h hE hr hlen ha
  obtain ⟨l, hl⟩ : ∃ l, l = tIND := ⟨_, rfl⟩
  have t1 : ((S l).toList == ([35, 69, 88, 84, 77, 51, 85] : List UInt8)) = false := by rw [ba_toList, S_list, hl]; rfl
  have p1 : hasPB ⟨#[35, 69, 88, 84, 45, 88, 45, 86, 69, 82, 83, 73, 79, 78, 58]⟩ l = false := by rw [hl]; rfl
  have t2 : ((S l).toList == ([35, 69, 88, 84, 45, 88, 45, 73, 78, 68, 69, 80, 69, 78, 68, 69, 78, 84, 45, 83, 69, 71, 77, 69, 78, 84, 83] : List UInt8)) = true := by rw [ba_toList, S_list, hl]; rfl
  rw [← hl] at H
  clear hl
  unfold ptr
  go_enter Tryz.func35, Tryz.ntmps35
  go_wp2_with fail
  refine (trim_line r l w H.out.2.2.1 H.out.2.2.2.1 H.out.2.2.2.2 H.out.2.1).mono ?_
  rintro e w1 ⟨rfl, hb⟩
  obtain ⟨⟨vv, lt, lv, va, hD, hI⟩, _⟩ := H.out
  have h1 := hD.keep hb
  have hC1 : Chg (Sx B P St) w w1 := (Chg.refl _ w).below hb
  have HX := Lib.hid (And.intro h1 (And.intro hI hC1))
  clear h1 hI hC1 hb hD
  go_wp2_with (first
    | (go_at_call 46; refine (hasPrefix_all _ _ _).mono ?_; rintro e w' ⟨rfl, rfl⟩)
    | (go_at_call 48; refine (setInd_any P vv ver ind _ HX.out.1.p).mono ?_; rintro e w' ⟨rfl, rfl⟩))
  go_ret
  exact ⟨rfl, ⟨vv, lt, lv, va, HX.out.1.setP 7 _, HX.out.2.1⟩, HX.out.2.2.setP 7 _⟩

set_option maxRecDepth 100000 in
set_option maxHeartbeats 1000000 in
theorem dec_nil {B0 B P St ver : Nat} {ind m3u strict : Bool} {vbs abs : List Nat} {vs : List Vrt} {ats : List Alt} {w : World} (h : HS w B P St ver ind m3u false vbs vs abs ats) (hE : EnvAt B0 w) :
    Calls Tryz.prog 35 #[ptr P, ptr St, .string ⟨#[]⟩, .bool strict] w fun e w' => e = .returned .nilIface ∧ HS w' B P St ver ind m3u false vbs vs abs ats ∧ Chg (Sx B P St) w w' := by
  have H := Lib.hid (And.intro h hE.env)
  clear h hE
  obtain ⟨l, hl⟩ : ∃ l : Bs, l = [] := ⟨_, rfl⟩
  have t1 : ((S l).toList == ([35, 69, 88, 84, 77, 51, 85] : List UInt8)) = false := by rw [ba_toList, S_list, hl]; rfl
  have p1 : hasPB ⟨#[35, 69, 88, 84, 45, 88, 45, 86, 69, 82, 83, 73, 79, 78, 58]⟩ l = false := by rw [hl]; rfl
  have t2 : ((S l).toList == ([35, 69, 88, 84, 45, 88, 45, 73, 78, 68, 69, 80, 69, 78, 68, 69, 78, 84, 45, 83, 69, 71, 77, 69, 78, 84, 83] : List UInt8)) = false := by rw [ba_toList, S_list, hl]; rfl
  have p2 : hasPB ⟨#[35, 69, 88, 84, 45, 88, 45, 77, 69, 68, 73, 65, 58]⟩ l = false := by rw [hl]; rfl
  have p3 : hasPB ⟨#[35, 69, 88, 84, 45, 88, 45, 83, 84, 82, 69, 65, 77, 45, 73, 78, 70, 58]⟩ l = false := by rw [hl]; rfl
  have p4 : hasPB ⟨#[35, 69, 88, 84, 45, 88, 45, 73, 45, 70, 82, 65, 77, 69, 45, 83, 84, 82, 69, 65, 77, 45, 73, 78, 70, 58]⟩ l = false := by rw [hl]; rfl
  have p5 : hasPB ⟨#[35]⟩ l = false := by rw [hl]; rfl
  have hr : Hid (Lib.trimSpace [] = l) := by show _ = _; rw [hl]; rfl
  clear hl
  unfold ptr
  go_enter Tryz.func35, Tryz.ntmps35
  go_wp2_with fail
  refine (trim_line [] l w hr.out (Nat.zero_le _) (by intro c hc; cases hc) H.out.2).mono ?_
  rintro e w1 ⟨rfl, hb⟩
  obtain ⟨⟨vv, lt, lv, va, hD, hI⟩, _⟩ := H.out
  have h1 := hD.keep hb
  have hC1 : Chg (Sx B P St) w w1 := (Chg.refl _ w).below hb
  have c2 := h1.s.cell 2 rfl
  have HX := Lib.hid (And.intro h1 (And.intro hI hC1))
  clear h1 hI hC1 hb hD
  go_wp2_with (go_at_call 46; refine (hasPrefix_all _ _ _).mono ?_; rintro e w' ⟨rfl, rfl⟩)
  go_ret
  exact ⟨rfl, ⟨vv, lt, lv, va, HX.out.1, HX.out.2.1⟩, HX.out.2.2⟩

set_option maxRecDepth 100000 in
set_option maxHeartbeats 1000000 in
theorem dec_uri {B0 B P St ver : Nat} {ind m3u strict : Bool} {vbs abs : List Nat} {vs : List Vrt} {x : Vrt} {ats : List Alt} {w : World} (r l : Bs) (h : HS w B P St ver ind m3u true vbs (vs ++ [x]) abs ats) (hE : EnvAt B0 w)
    (hr : Lib.trimSpace r = l) (hlen : r.length ≤ 100000) (ha : ∀ c ∈ r, c.toNat < 128) (hl : ∃ c t, l = c :: t ∧ c ≠ 35) :
    Calls Tryz.prog 35 #[ptr P, ptr St, .string (S r), .bool strict] w fun e w' => e = .returned .nilIface ∧ HS w' B P St ver ind m3u false vbs (vs ++ [{ x with uri := l }]) abs ats ∧ Chg (Sx B P St) w w' := by
  obtain ⟨c, t, hl, hc⟩ := hl
  have hc2 : ((35 : UInt8) == c) = false := by simpa using fun e => hc e.symm
  have t1 : ((S l).toList == ([35, 69, 88, 84, 77, 51, 85] : List UInt8)) = false := by rw [ba_toList, S_list, hl]; simp [hc]
  have p1 : hasPB ⟨#[35, 69, 88, 84, 45, 88, 45, 86, 69, 82, 83, 73, 79, 78, 58]⟩ l = false := by rw [hl]; simp [hasPB, List.isPrefixOf, hc2]
  have t2 : ((S l).toList == ([35, 69, 88, 84, 45, 88, 45, 73, 78, 68, 69, 80, 69, 78, 68, 69, 78, 84, 45, 83, 69, 71, 77, 69, 78, 84, 83] : List UInt8)) = false := by rw [ba_toList, S_list, hl]; simp [hc]
  have p2 : hasPB ⟨#[35, 69, 88, 84, 45, 88, 45, 77, 69, 68, 73, 65, 58]⟩ l = false := by rw [hl]; simp [hasPB, List.isPrefixOf, hc2]
  have p5 : hasPB ⟨#[35]⟩ l = false := by rw [hl]; simp [hasPB, List.isPrefixOf, hc2]
  have H := Lib.hid (And.intro h (And.intro hE.env (And.intro hr (And.intro hlen ha))))
  clear h hE hr hlen ha hc hc2 hl
  unfold ptr
  go_enter Tryz.func35, Tryz.ntmps35
  go_wp2_with fail
  refine (trim_line r l w H.out.2.2.1 H.out.2.2.2.1 H.out.2.2.2.2 H.out.2.1).mono ?_
  rintro e w1 ⟨rfl, hb⟩
  obtain ⟨⟨vv, lt, lv, va, hD, hI⟩, _⟩ := H.out
  obtain ⟨pre, b, hv1, hv2⟩ := hI rfl
  subst hv1 hv2
  unfold ptr at hD
  have h1 := hD.keep hb
  have hC1 : Chg (Sx B P St) w w1 := (Chg.refl _ w).below hb
  have hge : B ≤ b := h1.v.ge b (by simp)
  have c2 := h1.s.cell 2 rfl
  have f2 := h1.s.frozen 2
  have c15 := h1.s.cell 15 rfl
  have d0 := h1.v.lastBox.cell 0 rfl
  have g0 := h1.v.lastBox.frozen 0
  have hSb : Hid (b ≠ St) := by have := h1.ltS; show b ≠ St; omega
  have hSb2 : b ≠ St := hSb.out
  have HX := Lib.hid (And.intro h1 hC1)
  clear h1 hI hC1 hb hD
  go_wp2_with (go_at_call 46; refine (hasPrefix_all _ _ _).mono ?_; rintro e w' ⟨rfl, rfl⟩)
  go_ret
  exact ⟨rfl, ⟨vv, lt, ptr b, va, (HX.out.1.setS 2 _).setV 0 _ rfl, fun h => by cases h⟩, (HX.out.2.setS 2 _).setCell _ _ (fun _ => .inr (.inr hge))⟩
end Go.Proofs.YtelkphcbopbhoaaGreatDoor
