/-
  The reader's state while its renditions are handed to the variants.
-/
import Derived.Test.YtelkphcbopbhoaaGreatDoorW26
namespace Go.Proofs.YtelkphcbopbhoaaGreatDoor
open Go Go.RowKit

/-- The blocks of a variant's renditions. -/
def sel (v : Vrt) (abs : List Nat) (ats : List Alt) : List Nat := ((abs.zip ats).filter (fun p => v.has p.2)).map (·.1)
theorem sel_fst {α β : Type} (p : α × β → Bool) : ∀ (l : List (α × β)), ((l.filter p).map (·.1)).Sublist (l.map (·.1)) := fun l => List.Sublist.map _ List.filter_sublist
theorem zip_fst {α β : Type} : ∀ (l : List α) (m : List β), m.length = l.length → (l.zip m).map (·.1) = l
  | [], _, _ => by simp
  | a :: l, [], h => by simp at h
  | a :: l, b :: m, h => by simp [zip_fst l m (by simpa using h)]
theorem zip_snd {α β : Type} : ∀ (l : List α) (m : List β), m.length = l.length → (l.zip m).map (·.2) = m
  | [], [], _ => by simp
  | [], b :: m, h => by simp at h
  | a :: l, [], h => by simp at h
  | a :: l, b :: m, h => by simp [zip_snd l m (by simpa using h)]
theorem filter_snd {α β : Type} (p : β → Bool) (l : List α) (m : List β) (h : m.length = l.length) : ((l.zip m).filter (fun x => p x.2)).map (·.2) = m.filter p := by
  conv => rhs; rw [← zip_snd l m h]
  rw [List.filter_map]
  rfl
/-- The renditions of a variant. -/
theorem PRow.sel {w : World} {B : Nat} {va : Value} {abs : List Nat} {ats : List Alt} (h : PRow w B 95 97 aCells va abs ats) (v : Vrt) {al : Value} (hr : w.ownsRow B 95 1 al (sel v abs ats).length ((sel v abs ats).map ptr)) :
    PRow w B 95 97 aCells al (YtelkphcbopbhoaaGreatDoor.sel v abs ats) (ats.filter v.has) := by
  have hsub : (YtelkphcbopbhoaaGreatDoor.sel v abs ats).Sublist abs := by
    have := sel_fst (fun p : Nat × Alt => v.has p.2) (abs.zip ats)
    rw [zip_fst abs ats h.len] at this
    exact this
  refine ⟨hr, ?_, fun b hb => h.ge b (hsub.subset hb), ?_, hsub.nodup h.nodup⟩
  · rw [← filter_snd v.has abs ats h.len]
    simp [YtelkphcbopbhoaaGreatDoor.sel]
  · intro i b x h1 h2
    rw [← filter_snd v.has abs ats h.len] at h2
    unfold YtelkphcbopbhoaaGreatDoor.sel at h1
    rw [List.getElem?_map] at h1 h2
    obtain ⟨z, hz, rfl⟩ := Option.map_eq_some_iff.1 h1
    obtain ⟨z', hz', rfl⟩ := Option.map_eq_some_iff.1 h2
    rw [hz] at hz'
    cases hz'
    have hm := (List.mem_filter.1 (List.mem_of_getElem? hz)).1
    obtain ⟨j, hj⟩ := List.getElem?_of_mem hm
    rw [List.getElem?_zip_eq_some] at hj
    exact h.box j _ _ hj.1 hj.2

/-- While a variant's renditions are gathered. -/
structure VA (w1 wr : World) (b : Nat) (v : Vrt) (al : Value) (ps : List Nat) : Prop where
  chg : Chg (fun i => i = b ∨ w1.heap.size ≤ i) w1 wr
  box : Box wr b 94 (vCells v al)
  row : wr.ownsRow w1.heap.size 95 1 al ps.length (ps.map ptr)
theorem VA.start {w : World} {b : Nat} {v : Vrt} (h : Box w b 94 (vCells v nilS)) : VA w w b v nilS [] := ⟨Chg.refl _ _, h, World.ownsRow_nil _ _ _ _⟩
/-- One more. -/
theorem VA.app {w1 wr w5 : World} {b A : Nat} {v : Vrt} {al v' : Value} {ps : List Nat} (h : VA w1 wr b v al ps) (hown : w5.ownsRow w1.heap.size 95 1 v' (ps.length + 1) (ps.map ptr ++ [ptr A])) (hc : Chg (fun i => al.ownBlock = some i) wr w5) :
    VA w1 (w5.setCell ⟨b, 16, none⟩ v') b v v' (ps ++ [A]) := by
  have hb := h.box.chg hc (fun e => row_ne_box h.row h.box (by decide) e)
  have hne := row_ne_box hown hb (by decide)
  have hbs := hb.set 16 v'
  refine ⟨?_, hbs, ?_⟩
  · refine (h.chg.trans (Chg.mono ⟨hc.os, hc.tape, hc.output, hc.size, hc.block⟩ (fun i _ e => .inr (World.ownsRow.lt h.row i e).1))).setCell _ _ (fun _ => .inl rfl)
  · rw [List.length_append, List.map_append]
    exact own_chg hown ((Chg.refl (fun i => i = b) w5).setCell ⟨b, 16, none⟩ v' (fun _ => rfl)) (fun i hi e => hne (by rw [hi, e]))

/-- Behind so many variants. -/
structure AD (w : World) (B P : Nat) (vv va : Value) (cp : List Value) (vbs : List Nat) (vs : List Vrt) (abs : List Nat) (ats : List Alt) (k : Nat) : Prop where
  p : Box w P 77 cp
  vr : w.ownsRow B 88 1 vv vbs.length (vbs.map ptr)
  len : vs.length = vbs.length
  ge : ∀ b ∈ vbs, B ≤ b
  nodup : vbs.Nodup
  old : ∀ i b v, vbs[i]? = some b → vs[i]? = some v → k ≤ i → Box w b 94 (vCells v nilS)
  new : ∀ i b v, vbs[i]? = some b → vs[i]? = some v → i < k → ∃ al ps, Box w b 94 (vCells v al) ∧ PRow w B 95 97 aCells al ps (ats.filter v.has)
  a : PRow w B 95 97 aCells va abs ats
  ltP : P < B
theorem AD.start {w : World} {B P St : Nat} {vv va : Value} {cp cs : List Value} {vbs abs : List Nat} {vs : List Vrt} {ats : List Alt} (h : HD w B P St vv va cp cs vbs vs abs ats) : AD w B P vv va cp vbs vs abs ats 0 :=
  ⟨h.p, h.v.row, h.v.len, h.v.ge, h.v.nodup, fun i b v h1 h2 _ => h.v.box i b v h1 h2, fun i b v _ _ hi => absurd hi (Nat.not_lt_zero _), h.a, h.ltP⟩
theorem PRow.chgB {w w' : World} {B b e : Nat} {S : Nat → Prop} {al : Value} {ps : List Nat} {xs : List Alt} {l : List Value} (h : PRow w B 95 97 aCells al ps xs) (hb : Box w b e l) (h1 : e ≠ 95) (h2 : e ≠ 97) (k : Chg S w w') (hS : ∀ i, S i → i = b ∨ w.heap.size ≤ i) : PRow w' B 95 97 aCells al ps xs := by
  refine h.chg k (fun i hi s => ?_) (fun i hi s => ?_)
  · rcases hS i s with rfl | hs
    · exact row_ne_box h.row hb (fun x => h1 x.symm) hi
    · have := (World.ownsRow.lt h.row i hi).2; omega
  · rcases hS i s with rfl | hs
    · exact h.not_mem (fun l' hb' => h2 (box_type hb hb')) hi
    · have := h.low_mem i hi; omega
theorem AD.next {w1 wr : World} {B P : Nat} {vv va : Value} {cp : List Value} {vbs abs : List Nat} {vs : List Vrt} {ats : List Alt} {k b : Nat} {v : Vrt} {al : Value} (h : AD w1 B P vv va cp vbs vs abs ats k) (hb : vbs[k]? = some b) (hv : vs[k]? = some v) (hB : B ≤ w1.heap.size) (hA : VA w1 wr b v al (sel v abs ats)) :
    AD wr B P vv va cp vbs vs abs ats (k + 1) := by
  obtain ⟨h1, h2, h3, h4, h5, h6, h7, h8, h9⟩ := h
  have hbox := h6 k b v hb hv (Nat.le_refl _)
  have hbm := h4 b (List.mem_of_getElem? hb)
  have hne : ∀ i c, vbs[i]? = some c → i ≠ k → c ≠ b := by
    intro i c hc hik e
    subst e
    have hi := (List.getElem?_eq_some_iff.1 hc).1
    have hk := (List.getElem?_eq_some_iff.1 hb).1
    have := (List.getElem?_inj hi h5).1 (hc.trans hb.symm)
    exact hik this
  have ha := h8.chgB hbox (by decide) (by decide) hA.chg (fun i e => e)
  refine ⟨h1.chg hA.chg ?_, own_chg h2 hA.chg ?_, h3, h4, h5, ?_, ?_, ha, h9⟩
  · rintro (e | e)
    · omega
    · have := h1.lt; omega
  · rintro i hi (e | e)
    · subst e; exact row_ne_box h2 hbox (by decide) hi
    · have := (World.ownsRow.lt h2 i hi).2; omega
  · intro i c u e1 e2 hi
    have hx := h6 i c u e1 e2 (by omega)
    refine hx.chg hA.chg ?_
    rintro (e | e)
    · exact hne i c e1 (by omega) e
    · have := hx.lt; omega
  · intro i c u e1 e2 hi
    by_cases hik : i = k
    · subst hik
      rw [hb] at e1
      rw [hv] at e2
      cases e1
      cases e2
      exact ⟨al, sel v abs ats, hA.box, ha.sel v (row_mono hA.row hB)⟩
    · obtain ⟨al', ps, q1, q2⟩ := h7 i c u e1 e2 (by omega)
      refine ⟨al', ps, q1.chg hA.chg ?_, q2.chgB hbox (by decide) (by decide) hA.chg (fun i e => e)⟩
      rintro (e | e)
      · exact hne i c e1 hik e
      · have := q1.lt; omega
theorem sel_take (v : Vrt) (abs : List Nat) (ats : List Alt) {k : Nat} {A : Nat} {a : Alt} (h1 : abs[k]? = some A) (h2 : ats[k]? = some a) : sel v (abs.take (k + 1)) (ats.take (k + 1)) = sel v (abs.take k) (ats.take k) ++ (if v.has a then [A] else []) := by
  obtain ⟨i1, rfl⟩ := List.getElem?_eq_some_iff.1 h1
  obtain ⟨i2, rfl⟩ := List.getElem?_eq_some_iff.1 h2
  unfold sel
  rw [List.take_succ_eq_append_getElem i1, List.take_succ_eq_append_getElem i2, List.zip_append (by simp; omega), List.filter_append, List.map_append]
  congr 1
  by_cases h : v.has ats[k] = true <;> simp [h]
theorem VA.alt {w1 wr : World} {B P : Nat} {vv va : Value} {cp : List Value} {vbs abs ps : List Nat} {vs : List Vrt} {ats : List Alt} {k q b A : Nat} {v : Vrt} {a : Alt} {al : Value} (hA : VA w1 wr b v al ps) (h : AD w1 B P vv va cp vbs vs abs ats k) (hb : vbs[k]? = some b) (hv : vs[k]? = some v) (h1 : abs[q]? = some A) (h2 : ats[q]? = some a) : Box wr A 97 (aCells a) :=
  (h.a.chgB (h.old k b v hb hv (Nat.le_refl _)) (by decide) (by decide) hA.chg (fun _ e => e)).box q A a h1 h2
theorem VA.drewN {w1 wr : World} {b : Nat} {v : Vrt} {al : Value} {ps : List Nat} (h : VA w1 wr b v al ps) (n : Nat) : VA w1 (wr.drewN n) b v al ps := ⟨h.chg.drewN n, h.box, h.row⟩
theorem ite_len (l : List Nat) (A : Nat) (c : Bool) : (l ++ (if c = true then [A] else [])).length ≤ l.length + 1 := by
  cases c <;> simp
theorem sel_len (v : Vrt) (abs : List Nat) (ats : List Alt) : (sel v abs ats).length ≤ abs.length := by
  unfold sel
  rw [List.length_map]
  exact Nat.le_trans (List.length_filter_le _ _) (by rw [List.length_zip]; omega)
end Go.Proofs.YtelkphcbopbhoaaGreatDoor
