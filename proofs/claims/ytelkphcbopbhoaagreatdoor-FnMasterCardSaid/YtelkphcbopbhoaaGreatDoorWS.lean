/-
  A struct of sixteen cells is stored.
-/
import Derived.Test.YtelkphcbopbhoaaGreatDoorW30
namespace Go.Proofs.YtelkphcbopbhoaaGreatDoor
open Go Go.RowKit

def sets (g : Nat) : Nat → List Value → World → World
  | _, [], w => w
  | k, v :: r, w => sets g (k + 1) r (w.setCell ⟨g, k, none⟩ v)
def setl : Nat → List Value → List Value → List Value
  | _, [], l => l
  | k, v :: r, l => setl (k + 1) r (l.set k v)
theorem sets_chg (g : Nat) : ∀ (vs : List Value) (k : Nat) (w : World), Chg (fun i => i = g) w (sets g k vs w)
  | [], _, w => Chg.refl _ w
  | v :: r, k, w => Chg.trans ((Chg.refl (fun i => i = g) w).setCell ⟨g, k, none⟩ v (fun _ => rfl)) (sets_chg g r (k + 1) _)
theorem sets_box {g : Nat} {t : TypeId} : ∀ (vs : List Value) (k : Nat) (w : World) (l : List Value), Box w g t l → Box (sets g k vs w) g t (setl k vs l)
  | [], _, _, _, h => h
  | v :: r, k, _, _, h => sets_box r (k + 1) _ _ (h.set k v)
theorem setl_eq : ∀ (vs : List Value) (k : Nat) (l : List Value), k + vs.length = l.length → setl k vs l = l.take k ++ vs
  | [], k, l, h => by
    rw [List.append_nil, List.take_of_length_le (by simp at h; omega)]
    rfl
  | v :: r, k, l, h => by
    have hk : k < l.length := by simp at h; omega
    show setl (k + 1) r (l.set k v) = _
    rw [setl_eq r (k + 1) (l.set k v) (by simp at h ⊢; omega), List.take_succ_eq_append_getElem (by simpa using hk)]
    simp [List.take_set_of_le]
theorem run_store_f64 (w : World) (a : Addr) (b : Nat) : (store a (.float .f64 b) .plain).run Tryz.prog w = stored Tryz.prog w a (.float .f64 b) .plain := run_store Tryz.prog w a _ _ rfl
section
variable {ρ : Operand → Value} {o : Oper} {w : World}
set_option maxHeartbeats 1000000 in
theorem ex_store63 (x y : Operand) (g : Nat) (l : List Value) (v : Vrt) (ho : o.op = .store 63 x y) (hx : ρ x = .pointer (some ⟨g, 0, none⟩)) (hy : ρ y = .agg (xCells v nilS).toArray) (hl : l.length = 16) (hb : Box w g 63 l) :
    ∃ w', (execOp ρ o).run Tryz.prog w = .ok .skip w' ∧ Box w' g 63 (xCells v nilS) ∧ Chg (fun i => i = g) w w' := by
  have hf := fun k => frozen_of_row w g k l.toArray 63 hb
  have hc : ∀ k, k < 16 → ∃ u, w.cell? ⟨g, k, none⟩ = some u := fun k hk => ⟨l[k], hb.cell k (by simp [hl, hk])⟩
  obtain ⟨u0, c0⟩ := hc 0 (by omega)
  obtain ⟨u1, c1⟩ := hc 1 (by omega)
  obtain ⟨u2, c2⟩ := hc 2 (by omega)
  obtain ⟨u3, c3⟩ := hc 3 (by omega)
  obtain ⟨u4, c4⟩ := hc 4 (by omega)
  obtain ⟨u5, c5⟩ := hc 5 (by omega)
  obtain ⟨u6, c6⟩ := hc 6 (by omega)
  obtain ⟨u7, c7⟩ := hc 7 (by omega)
  obtain ⟨u8, c8⟩ := hc 8 (by omega)
  obtain ⟨u9, c9⟩ := hc 9 (by omega)
  obtain ⟨u10, c10⟩ := hc 10 (by omega)
  obtain ⟨u11, c11⟩ := hc 11 (by omega)
  obtain ⟨u12, c12⟩ := hc 12 (by omega)
  obtain ⟨u13, c13⟩ := hc 13 (by omega)
  obtain ⟨u14, c14⟩ := hc 14 (by omega)
  obtain ⟨u15, c15⟩ := hc 15 (by omega)
  obtain ⟨r, hr⟩ : ∃ r, (execOp ρ o).run Tryz.prog w = r := ⟨_, rfl⟩
  have h0 := hr
  simp [execOp, ho, hx, hy, go_sem, run_store_f64, stored, xCells, nilS, hf, c0, c1, c2, c3, c4, c5, c6, c7, c8, c9, c10, c11, c12, c13, c14, c15] at hr
  have hW := h0.trans hr.symm
  clear hr h0
  refine ⟨sets g 0 (xCells v nilS) w, hW, ?_, sets_chg g _ _ _⟩
  have h16 := sets_box (xCells v nilS) 0 w l hb
  rw [setl_eq _ _ _ (by rw [hl]; rfl)] at h16
  exact h16
end
end Go.Proofs.YtelkphcbopbhoaaGreatDoor
