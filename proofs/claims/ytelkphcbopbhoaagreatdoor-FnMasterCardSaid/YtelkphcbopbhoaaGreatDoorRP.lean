/-
  Single operations, more.
-/
import Derived.Test.YtelkphcbopbhoaaGreatDoorRO
import Derived.Test.YtelkphcbopbhoaaGreatDoorLA
import Derived.Test.YtelkphcbopbhoaaGreatDoorRC
namespace Go.Proofs.YtelkphcbopbhoaaGreatDoor
open Go Go.RowKit

def vrtNone : Vrt := ⟨[], 0, 0, 0, [], 0, 0, [], [], [], [], [], 0⟩
section
variable {ρ : Operand → Value} {o : Oper} {w : World}
theorem ex_call11 (x : Operand) (v : Value) (ho : o.op = .call { callee := .value (.func 11), args := #[x], argTypes := #[23] }) (hf : ∀ f, ρ (.func f) = .func (.func f) #[] #[]) (hx : ρ x = v) : (execOp ρ o).run Tryz.prog w = .ok (.enter 11 #[v]) w := by
  simp [execOp, ho, hx, hf, go_sem]
theorem ex_call9 (x y : Operand) (v : Value) (ho : o.op = .call { callee := .value x, args := #[y], argTypes := #[23] }) (hx : ρ x = .func (.func 9) #[] #[]) (hy : ρ y = v) : (execOp ρ o).run Tryz.prog w = .ok (.enter 9 #[v]) w := by
  simp [execOp, ho, hx, hy, go_sem]
theorem ex_build46 (x0 x1 x2 x3 x4 x5 x6 x7 x8 : Operand) (u au vi su ca na co : Bs) (pr ba : Nat) (ho : o.op = .build 46 #[(0, x0), (1, x1), (2, x2), (7, x3), (8, x4), (9, x5), (10, x6), (11, x7), (4, x8)])
    (h0 : ρ x0 = .string (S u)) (h1 : ρ x1 = .int .u32 pr) (h2 : ρ x2 = .int .u32 ba) (h3 : ρ x3 = .string (S au)) (h4 : ρ x4 = .string (S vi)) (h5 : ρ x5 = .string (S su)) (h6 : ρ x6 = .string (S ca)) (h7 : ρ x7 = .string (S na)) (h8 : ρ x8 = .string (S co)) :
    (execOp ρ o).run Tryz.prog w = .ok (.value (vrtVal ⟨u, pr, ba, 0, co, 0, 0, au, vi, su, ca, na, 0⟩)) w := by
  simp [execOp, ho, h0, h1, h2, h3, h4, h5, h6, h7, h8, go_sem, vrtVal, vrtCells]
theorem ex_alloc46 (ho : o.op = .alloc 46) : (execOp ρ o).run Tryz.prog w = .ok (.value (.pointer (some ⟨w.heap.size, 0, none⟩))) (w.alloc (.cells (vrtCells vrtNone).toArray 46)) := by
  simp [execOp, ho, go_sem, vrtCells, vrtNone]
  rfl
theorem ex_store46 (x y : Operand) (g : Nat) (l : List Value) (v : Vrt) (ho : o.op = .store 46 x y) (hx : ρ x = .pointer (some ⟨g, 0, none⟩)) (hy : ρ y = vrtVal v) (hl : l.length = 13) (hb : Box w g 46 l) :
    ∃ w', (execOp ρ o).run Tryz.prog w = .ok .skip w' ∧ Box w' g 46 (vrtCells v) ∧ Chg (fun i => i = g) w w' := by
  have hf := fun k => frozen_of_row w g k l.toArray 46 hb
  have hc : ∀ k, k < 13 → ∃ u, w.cell? ⟨g, k, none⟩ = some u := fun k hk => ⟨l[k], hb.cell k (by simp [hl, hk])⟩
  obtain ⟨u0, c0⟩ := hc 0 (by omega)
  obtain ⟨u1, c1⟩ := hc 1 (by omega)
  obtain ⟨u2, c2⟩ := hc 2 (by omega)
  obtain ⟨u3, c3⟩ := hc 3 (by omega)
  obtain ⟨u4, c4⟩ := hc 4 (by omega)
  obtain ⟨u5, c5⟩ := hc 5 (by omega)
  obtain ⟨u6, c6⟩ := hc 6 (by omega)
  obtain ⟨u7, c7⟩ := hc 7 (by omega)
  obtain ⟨u8, c8⟩ := hc 8 (by omega)
  obtain ⟨u9, c9⟩ := hc 9 (by omega)
  obtain ⟨u10, c10⟩ := hc 10 (by omega)
  obtain ⟨u11, c11⟩ := hc 11 (by omega)
  obtain ⟨u12, c12⟩ := hc 12 (by omega)
  obtain ⟨r, hr⟩ : ∃ r, (execOp ρ o).run Tryz.prog w = r := ⟨_, rfl⟩
  have h0 := hr
  simp [execOp, ho, hx, hy, go_sem, vrtVal, vrtCells, hf, c0, c1, c2, c3, c4, c5, c6, c7, c8, c9, c10, c11, c12] at hr
  refine ⟨_, h0.trans hr.symm, ?_, ?_⟩
  · have := ((((((((((((hb.set 0 (.string (S v.uri))).set 1 (.int .u32 v.prog)).set 2 (.int .u32 v.band)).set 3 (.int .u32 v.avg)).set 4 (.string (S v.codecs))).set 5 (.int .u32 v.width)).set 6 (.int .u32 v.height)).set 7 (.string (S v.audio))).set 8 (.string (S v.video))).set 9 (.string (S v.subs))).set 10 (.string (S v.caps))).set 11 (.string (S v.name))).set 12 (.int .i64 v.rate)
    match l, hl with
    | [_, _, _, _, _, _, _, _, _, _, _, _, _], _ => exact this
  · exact (((((((((((((Chg.refl (fun i => i = g) w).setCell ⟨g, 0, none⟩ _ (fun _ => rfl)).setCell ⟨g, 1, none⟩ _ (fun _ => rfl)).setCell ⟨g, 2, none⟩ _ (fun _ => rfl)).setCell ⟨g, 3, none⟩ _ (fun _ => rfl)).setCell ⟨g, 4, none⟩ _ (fun _ => rfl)).setCell ⟨g, 5, none⟩ _ (fun _ => rfl)).setCell ⟨g, 6, none⟩ _ (fun _ => rfl)).setCell ⟨g, 7, none⟩ _ (fun _ => rfl)).setCell ⟨g, 8, none⟩ _ (fun _ => rfl)).setCell ⟨g, 9, none⟩ _ (fun _ => rfl)).setCell ⟨g, 10, none⟩ _ (fun _ => rfl)).setCell ⟨g, 11, none⟩ _ (fun _ => rfl)).setCell ⟨g, 12, none⟩ _ (fun _ => rfl)
end
theorem op_store46 {Q : Exit → Act → World → Prop} {o : Oper} {a : Act} {w : World} {K : Act → World → Prop} (x y : Operand) (g : Nat) (l : List Value) (v : Vrt) (ho : o.op = .store 46 x y) (hx : a.eval x = .pointer (some ⟨g, 0, none⟩)) (hy : a.eval y = vrtVal v) (hl : l.length = 13) (hb : Box w g 46 l)
    (h : ∀ w', Box w' g 46 (vrtCells v) → Chg (fun i => i = g) w w' → K (a.put o.dst undef) w') : o.wp Tryz.prog a w K Q := by
  obtain ⟨w3, hrun, hbx, hch⟩ := ex_store46 (w := w) (o := o) (ρ := a.eval) x y g l v ho hx hy hl hb
  exact op_skip hrun (h w3 hbx hch)
end Go.Proofs.YtelkphcbopbhoaaGreatDoor
