/-
  What the reader's last function gives, and its regions' invariants.
-/
import Derived.Test.YtelkphcbopbhoaaGreatDoorWS
namespace Go.Proofs.YtelkphcbopbhoaaGreatDoor
open Go Go.RowKit

/-- What is built in a block of its own. -/
def JB (W0 : World) (t : TypeId) (cs : List Value) (sl : Tmp) (b : Bool) (a : Act) (w : World) : Prop :=
  Chg (fun _ => False) W0 w ∧ (b = true → ∃ g, a.eval (.tmp sl) = .pointer (some ⟨g, 0, none⟩) ∧ W0.heap.size ≤ g ∧ Box w g t cs)
theorem JB.below {L : List QK} {W0 : World} {t : TypeId} {cs : List Value} {sl B0 : Nat} {a : Act} {listed : Array Bool} {w w' : World} (N i d : Nat) (hN : i ≠ N) (hd : d ≠ sl) (hJ : JB W0 t cs sl (listed.getD N false) a w) (hb : Below w.heap.size w w') {v : Value} (hp : (L[i]?.getD .no).ok B0 v w') :
    ∃ v', a.put (some d) v = a.put (some d) v' ∧ (L[i]?.getD .no).ok B0 v' w' ∧ (∀ j u, listed.getD j false = true → (L[j]?.getD .no).ok B0 u w → (L[j]?.getD .no).ok B0 u w') ∧ JB W0 t cs sl ((listed.setIfInBounds i true).getD N false) (a.put (some d) v') w' := by
  refine ⟨v, rfl, hp, fun j u _ hu => QK.below hb _ u hu, hJ.1.below hb, fun e => ?_⟩
  rw [getD_set_other hN] at e
  obtain ⟨g, h1, h2, h3⟩ := hJ.2 e
  exact ⟨g, (getD_put_other (by simpa using hd)).trans h1, h2, h3.below hb⟩
theorem JB.pure {L : List QK} {W0 : World} {t : TypeId} {cs : List Value} {sl B0 : Nat} {a : Act} {listed : Array Bool} {w : World} (N i d : Nat) (hN : i ≠ N) (hd : d ≠ sl) (hJ : JB W0 t cs sl (listed.getD N false) a w) {v : Value} (hp : (L[i]?.getD .no).ok B0 v w) :
    ∃ v', a.put (some d) v = a.put (some d) v' ∧ (L[i]?.getD .no).ok B0 v' w ∧ (∀ j u, listed.getD j false = true → (L[j]?.getD .no).ok B0 u w → (L[j]?.getD .no).ok B0 u w) ∧ JB W0 t cs sl ((listed.setIfInBounds i true).getD N false) (a.put (some d) v') w := JB.below N i d hN hd hJ (Below.refl _ _) hp
theorem JB.new {L : List QK} {W0 : World} {t : TypeId} {cs : List Value} {sl B0 : Nat} {a : Act} {listed : Array Bool} {w w' : World} (N i d : Nat) (hN : i ≠ N) (hJ : JB W0 t cs sl (listed.getD N false) a w) (hn : listed.getD N false = false) (hb : Below w.heap.size w w') {v : Value} (hp : (L[i]?.getD .no).ok B0 v w') :
    ∃ v', a.put (some d) v = a.put (some d) v' ∧ (L[i]?.getD .no).ok B0 v' w' ∧ (∀ j u, listed.getD j false = true → (L[j]?.getD .no).ok B0 u w → (L[j]?.getD .no).ok B0 u w') ∧ JB W0 t cs sl ((listed.setIfInBounds i true).getD N false) (a.put (some d) v') w' := by
  refine ⟨v, rfl, hp, fun j u _ hu => QK.below hb _ u hu, hJ.1.below hb, fun e => ?_⟩
  rw [getD_set_other hN, hn] at e
  cases e
def QK.simple (t n : Nat) : QK → Bool
  | .eq _ => true
  | .vp t' n' => t' == t && n' == n
  | .no => true
  | _ => false
theorem QK.store {B0 : Nat} {w w' : World} {t g : Nat} {l l' : List Value} {n : Nat} (hch : Chg (fun i => i = g) w w') (hb' : Box w' g t l') (hl : l'.length = n) : ∀ (p : QK) (v : Value), p.simple t n = true → p.ok B0 v w → p.ok B0 v w'
  | .eq _, _, _, h => h
  | .vp t' n', _, hs, ⟨q, m, h1, h2, h3, h4⟩ => by
    simp only [QK.simple, Bool.and_eq_true, beq_iff_eq] at hs
    obtain ⟨rfl, rfl⟩ := hs
    by_cases e : q = g
    · subst e; exact ⟨q, l', h1, h2, hl, hb'⟩
    · exact ⟨q, m, h1, h2, h3, h4.chg hch e⟩
  | .no, _, _, _ => trivial
theorem QK.all_simple {L : List QK} {t n : Nat} (h : L.all (QK.simple t n) = true) (j : Nat) : (L[j]?.getD .no).simple t n = true := by
  cases e : L[j]? with
  | none => rfl
  | some p => exact List.all_eq_true.1 h p (List.mem_of_getElem? e)

/-- What comes of a master playlist. -/
def MRow (w : World) (base : Nat) (r : Value) (vs : List Vrt) (ats : List Alt) : Prop :=
  ∃ als : List Value, als.length = vs.length ∧ w.ownsRow base 63 16 r vs.length ((vs.zip als).flatMap fun p => xCells p.1 p.2) ∧
    ∀ (i : Nat) (v : Vrt) (al : Value), vs[i]? = some v → als[i]? = some al → w.ownsRow base 67 10 al (ats.filter v.has).length ((ats.filter v.has).flatMap aCells)
theorem MRow.chg {S : Nat → Prop} {w w' : World} {base : Nat} {r : Value} {vs : List Vrt} {ats : List Alt} (h : MRow w base r vs ats) (k : Chg S w w') (hS : ∀ i, S i → w.heap.size ≤ i) : MRow w' base r vs ats := by
  obtain ⟨als, h1, h2, h3⟩ := h
  exact ⟨als, h1, own_chg h2 k (fun i hi s => by have := (World.ownsRow.lt h2 i hi).2; have := hS i s; omega), fun i v al e1 e2 => own_chg (h3 i v al e1 e2) k (fun j hj s => by have := (World.ownsRow.lt (h3 i v al e1 e2) j hj).2; have := hS j s; omega)⟩
theorem MRow.mono {w : World} {base base' : Nat} {r : Value} {vs : List Vrt} {ats : List Alt} (h : MRow w base r vs ats) (hb : base' ≤ base) : MRow w base' r vs ats := by
  obtain ⟨als, h1, h2, h3⟩ := h
  exact ⟨als, h1, row_mono h2 hb, fun i v al e1 e2 => row_mono (h3 i v al e1 e2) hb⟩
theorem MRow.next {w w' : World} {base : Nat} {rv rv' V : Value} {l : List Vrt} {ats : List Alt} {v : Vrt} {als : List Value} (h1 : als.length = l.length) (h2 : w.ownsRow base 63 16 rv l.length ((l.zip als).flatMap fun p => xCells p.1 p.2))
    (h3 : ∀ (i : Nat) (v : Vrt) (al : Value), l[i]? = some v → als[i]? = some al → w.ownsRow base 67 10 al (ats.filter v.has).length ((ats.filter v.has).flatMap aCells)) (hV : w.ownsRow base 67 10 V (ats.filter v.has).length ((ats.filter v.has).flatMap aCells))
    (hC : Chg (fun i => rv.ownBlock = some i) w w') (hown : w'.ownsRow base 63 16 rv' (l.length + 1) (((l.zip als).flatMap fun p => xCells p.1 p.2) ++ xCells v V)) : MRow w' base rv' (l ++ [v]) ats := by
  have far : ∀ {al n xs}, w.ownsRow base 67 10 al n xs → w'.ownsRow base 67 10 al n xs := fun h => own_chg h hC (fun i hi e => rows_apart h h2 (by decide) i hi e)
  refine ⟨als ++ [V], by simp [h1], ?_, ?_⟩
  · rw [List.zip_append h1.symm, List.flatMap_append, List.length_append]
    simpa using hown
  · intro i u al e1 e2
    by_cases hi : i < l.length
    · rw [List.getElem?_append_left hi] at e1
      rw [List.getElem?_append_left (by rw [h1]; exact hi)] at e2
      exact far (h3 i u al e1 e2)
    · have hi2 : i = l.length := by
        have := (List.getElem?_eq_some_iff.1 e1).1
        simp at this
        omega
      subst hi2
      have e3 : v = u := by simpa using e1
      have e4 : V = al := by
        rw [← h1] at e2
        simpa using e2
      subst e3 e4
      exact far hV
theorem xCells_one (v : Vrt) (A : Option Addr) (n c : Nat) : ∀ u ∈ xCells v (.slice A n c), u.oneCell' = true := by
  intro u hu
  simp only [xCells, List.mem_cons, List.not_mem_nil, or_false] at hu
  rcases hu with rfl | rfl | rfl | rfl | rfl | rfl | rfl | rfl | rfl | rfl | rfl | rfl | rfl | rfl | rfl | rfl <;> rfl
/-- While a variant is copied. -/
structure VX (w1 wr : World) (X : Nat) (v : Vrt) (V : Value) (la : List Alt) : Prop where
  chg : Chg (fun i => w1.heap.size ≤ i) w1 wr
  ge : w1.heap.size ≤ X
  box : Box wr X 63 (xCells v V)
  row : wr.ownsRow (X + 1) 67 10 V la.length (la.flatMap aCells)
/-- While a rendition is copied. -/
def JX (W0 : World) (X : Nat) (v : Vrt) (V : Value) (la : List Alt) (a0 : Alt) (b44 b46 : Bool) (w : World) : Prop :=
  Chg (fun i => i = X ∨ V.ownBlock = some i) W0 w ∧ (b44 = false → w.ownsRow (X + 1) 67 10 V la.length (la.flatMap aCells)) ∧ (b46 = false → Box w X 63 (xCells v V)) ∧
  (b46 = true → ∃ V', w.ownsRow (X + 1) 67 10 V' (la ++ [a0]).length ((la ++ [a0]).flatMap aCells) ∧ Box w X 63 (xCells v V'))
theorem JX.below {L : List QK} {W0 : World} {X B0 : Nat} {v : Vrt} {V : Value} {la : List Alt} {a0 : Alt} {a : Act} {listed : Array Bool} {w w' : World} (i : Nat) (h44 : i ≠ 44) (h46 : i ≠ 46) (hJ : JX W0 X v V la a0 (listed.getD 44 false) (listed.getD 46 false) w) (hb : Below w.heap.size w w') {u : Value} {dst : Option Tmp} (hp : (L[i]?.getD .no).ok B0 u w') :
    ∃ v', a.put dst u = a.put dst v' ∧ (L[i]?.getD .no).ok B0 v' w' ∧ (∀ j u, listed.getD j false = true → (L[j]?.getD .no).ok B0 u w → (L[j]?.getD .no).ok B0 u w') ∧ JX W0 X v V la a0 ((listed.setIfInBounds i true).getD 44 false) ((listed.setIfInBounds i true).getD 46 false) w' := by
  refine ⟨u, rfl, hp, fun j u _ hu => QK.below hb _ u hu, ?_⟩
  rw [getD_set_other h44, getD_set_other h46]
  exact ⟨hJ.1.below hb, fun e => row_below (hJ.2.1 e) hb, fun e => (hJ.2.2.1 e).below hb, fun e => by obtain ⟨V', h1, h2⟩ := hJ.2.2.2 e; exact ⟨V', row_below h1 hb, h2.below hb⟩⟩
theorem JX.pure {L : List QK} {W0 : World} {X B0 : Nat} {v : Vrt} {V : Value} {la : List Alt} {a0 : Alt} {a : Act} {listed : Array Bool} {w : World} (i : Nat) (h44 : i ≠ 44) (h46 : i ≠ 46) (hJ : JX W0 X v V la a0 (listed.getD 44 false) (listed.getD 46 false) w) {u : Value} {dst : Option Tmp} (hp : (L[i]?.getD .no).ok B0 u w) :
    ∃ v', a.put dst u = a.put dst v' ∧ (L[i]?.getD .no).ok B0 v' w ∧ (∀ j u, listed.getD j false = true → (L[j]?.getD .no).ok B0 u w → (L[j]?.getD .no).ok B0 u w) ∧ JX W0 X v V la a0 ((listed.setIfInBounds i true).getD 44 false) ((listed.setIfInBounds i true).getD 46 false) w := JX.below i h44 h46 hJ (Below.refl _ _) hp
theorem row_setX {w : World} {base X k t sz n : Nat} {V u : Value} {xs : List Value} (h : w.ownsRow base t sz V n xs) (hb : X < base) : (w.setCell ⟨X, k, none⟩ u).ownsRow base t sz V n xs :=
  ownsRow_setCell_below h hb u
/-- Behind an append to V. -/
theorem QK.grown {B0 : Nat} {w w' : World} {V : Value} (h : w.grownBy w' V.ownBlock) (hV : ∀ i, V.ownBlock = some i → i < B0) : ∀ (p : QK) (v : Value), (∀ b t s n xs, p ≠ .row b t s n xs) → p.ok B0 v w → p.ok B0 v w'
  | .eq _, _, _, h => h
  | .vp _ _, _, _, ⟨q, m, h1, h2, h3, h4⟩ => ⟨q, m, h1, h2, h3, by unfold Box at h4 ⊢; rw [h.block q (heap_lt h4) (fun e => by have := hV q e.symm; omega)]; exact h4⟩
  | .one _ _, _, _, ⟨q, h1, h2, h3⟩ => ⟨q, h1, by rw [h.block q (heap_lt h2) (fun e => by have := hV q e.symm; omega)]; exact h2, h3⟩
  | .row _ _ _ _ _, _, hn, _ => absurd rfl (hn _ _ _ _ _)
  | .no, _, _, _ => trivial
/-- Behind a store to X. -/
theorem QK.setX {B0 X k : Nat} {w : World} {u : Value} (hX : X < B0) : ∀ (p : QK) (v : Value), (∀ b t s n xs, p ≠ .row b t s n xs) → p.ok B0 v w → p.ok B0 v (w.setCell ⟨X, k, none⟩ u)
  | .eq _, _, _, h => h
  | .vp _ _, _, _, ⟨q, m, h1, h2, h3, h4⟩ => ⟨q, m, h1, h2, h3, by unfold Box at h4 ⊢; rw [heap_setCell_other _ _ _ _ (show q ≠ X by omega)]; exact h4⟩
  | .one _ _, _, _, ⟨q, h1, h2, h3⟩ => ⟨q, h1, by rw [heap_setCell_other _ _ _ _ (show q ≠ X by omega)]; exact h2, h3⟩
  | .row _ _ _ _ _, _, hn, _ => absurd rfl (hn _ _ _ _ _)
  | .no, _, _, _ => trivial
theorem MRow.setX {w : World} {base X k : Nat} {r u : Value} {vs : List Vrt} {ats : List Alt} (h : MRow w base r vs ats) (hX : X < base) : MRow (w.setCell ⟨X, k, none⟩ u) base r vs ats := by
  obtain ⟨als, h1, h2, h3⟩ := h
  exact ⟨als, h1, row_setX h2 hX, fun i v al e1 e2 => row_setX (h3 i v al e1 e2) hX⟩
theorem op_store31 {Q : Exit → Act → World → Prop} {o : Oper} {a : Act} {w : World} {K : Act → World → Prop} (x y : Operand) (g : Nat) (l : List Value) (ver : Nat) (ind : Bool) (ho : o.op = .store 31 x y) (hx : a.eval x = .pointer (some ⟨g, 0, none⟩)) (hy : a.eval y = .agg (mCells nilS ver ind).toArray) (hl : l.length = 4) (hb : Box w g 31 l)
    (h : ∀ w', Box w' g 31 (mCells nilS ver ind) → Chg (fun i => i = g) w w' → K (a.put o.dst undef) w') : o.wp Tryz.prog a w K Q := by
  obtain ⟨w3, hrun, hbx, hch⟩ := ex_store31 (w := w) (o := o) (ρ := a.eval) x y g l ver ind ho hx hy hl hb
  exact op_skip hrun (h w3 hbx hch)
theorem op_store63 {Q : Exit → Act → World → Prop} {o : Oper} {a : Act} {w : World} {K : Act → World → Prop} (x y : Operand) (g : Nat) (l : List Value) (v : Vrt) (ho : o.op = .store 63 x y) (hx : a.eval x = .pointer (some ⟨g, 0, none⟩)) (hy : a.eval y = .agg (xCells v nilS).toArray) (hl : l.length = 16) (hb : Box w g 63 l)
    (h : ∀ w', Box w' g 63 (xCells v nilS) → Chg (fun i => i = g) w w' → K (a.put o.dst undef) w') : o.wp Tryz.prog a w K Q := by
  obtain ⟨w3, hrun, hbx, hch⟩ := ex_store63 (w := w) (o := o) (ρ := a.eval) x y g l v ho hx hy hl hb
  exact op_skip hrun (h w3 hbx hch)
theorem Tryz.info67 : (Tryz.prog.info? 67).map (fun i => (i.zero, i.size, i.bytes)) = some (some (.agg #[.string ⟨#[]⟩, .string ⟨#[]⟩, .string ⟨#[]⟩, .string ⟨#[]⟩, .string ⟨#[]⟩, .bool false, .string ⟨#[]⟩, .string ⟨#[]⟩, .string ⟨#[]⟩, .string ⟨#[]⟩]), 10, 152) := by kernel_rfl
theorem Tryz.info63 : (Tryz.prog.info? 63).map (fun i => (i.zero, i.size, i.bytes)) = some (some (.agg xZero.toArray), 16, 216) := by kernel_rfl
end Go.Proofs.YtelkphcbopbhoaaGreatDoor
