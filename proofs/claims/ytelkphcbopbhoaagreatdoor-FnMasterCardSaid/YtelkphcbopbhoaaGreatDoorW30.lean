/-
  Single operations of the reader's last function, over operands that are variables; what it gives.
-/
import Derived.Test.YtelkphcbopbhoaaGreatDoorW28
import Derived.Test.YtelkphcbopbhoaaGreatDoorW12
namespace Go.Proofs.YtelkphcbopbhoaaGreatDoor
open Go Go.RowKit

/-- What a slot is good for. -/
inductive QK
  | eq (v : Value) | vp (t n : Nat) | one (t : Nat) (cs : List Value) | row (base t sz n : Nat) (xs : List Value) | no
def QK.ok (B0 : Nat) : QK → Value → World → Prop
  | .eq x, v, _ => v = x
  | .vp t n, v, w => ∃ g, ∃ l : List Value, v = .pointer (some ⟨g, 0, none⟩) ∧ B0 ≤ g ∧ l.length = n ∧ Box w g t l
  | .one t cs, v, w => ∃ g, v = .slice (some ⟨g, 0, none⟩) 1 1 ∧ w.heap[g]? = some (.cells cs.toArray t (0, 0)) ∧ B0 ≤ g
  | .row base t sz n xs, v, w => w.ownsRow base t sz v n xs
  | .no, _, _ => True
theorem QK.below {B0 : Nat} {w w' : World} (hb : Below w.heap.size w w') : ∀ (p : QK) (v : Value), p.ok B0 v w → p.ok B0 v w'
  | .eq _, _, h => h
  | .vp _ _, _, ⟨g, l, h1, h2, h3, h4⟩ => ⟨g, l, h1, h2, h3, h4.below hb⟩
  | .one _ _, _, ⟨g, h1, h2, h3⟩ => ⟨g, h1, by rw [hb.block g (heap_lt h2)]; exact h2, h3⟩
  | .row _ _ _ _ _, _, h => row_below h hb
  | .no, _, _ => trivial

def xCells (v : Vrt) (al : Value) : List Value :=
  [.string (S v.uri), .int .u32 v.prog, .int .u32 v.band, .int .u32 v.avg, .string (S v.codecs), .string (S v.resolution), .string (S v.audio), .string (S v.video), .string (S v.subs), .string (S v.caps), .string (S v.name), .bool false, .string ⟨#[]⟩, .string ⟨#[]⟩, .float .f64 (rateW v.rate), al]
def xZero : List Value :=
  [.string ⟨#[]⟩, .int .u32 0, .int .u32 0, .int .u32 0, .string ⟨#[]⟩, .string ⟨#[]⟩, .string ⟨#[]⟩, .string ⟨#[]⟩, .string ⟨#[]⟩, .string ⟨#[]⟩, .string ⟨#[]⟩, .bool false, .string ⟨#[]⟩, .string ⟨#[]⟩, .float .f64 0, .slice none 0 0]
def mCells (rv : Value) (ver : Nat) (ind : Bool) : List Value := [rv, .string ⟨#[]⟩, .int .i64 ver, .bool ind]

section
variable {ρ : Operand → Value} {o : Oper} {w : World}
theorem ex_nilCheck (x : Operand) (g : Nat) (ho : o.op = .nilCheck x) (hx : ρ x = .pointer (some ⟨g, 0, none⟩)) : (execOp ρ o).run Tryz.prog w = .ok (.value (.pointer (some ⟨g, 0, none⟩))) w := by
  simp [execOp, ho, hx, go_sem]
theorem ex_fa94 (x : Operand) (k g : Nat) (hk : k = 0 ∨ k = 2) (ho : o.op = .fieldAddr 94 x k) (hx : ρ x = .pointer (some ⟨g, 0, none⟩)) : (execOp ρ o).run Tryz.prog w = .ok (.value (.pointer (some ⟨g, k, none⟩))) w := by
  rcases hk with rfl | rfl <;> simp [execOp, ho, hx, go_sem]
theorem ex_fa92 (x : Operand) (k g : Nat) (hk : k < 15) (ho : o.op = .fieldAddr 92 x k) (hx : ρ x = .pointer (some ⟨g, 2, none⟩)) : (execOp ρ o).run Tryz.prog w = .ok (.value (.pointer (some ⟨g, k + 2, none⟩))) w := by
  have : k = 0 ∨ k = 1 ∨ k = 2 ∨ k = 3 ∨ k = 4 ∨ k = 5 ∨ k = 6 ∨ k = 7 ∨ k = 8 ∨ k = 9 ∨ k = 10 ∨ k = 11 ∨ k = 12 ∨ k = 13 ∨ k = 14 := by omega
  rcases this with rfl | rfl | rfl | rfl | rfl | rfl | rfl | rfl | rfl | rfl | rfl | rfl | rfl | rfl | rfl <;> simp [execOp, ho, hx, go_sem]
theorem ex_fa97 (x : Operand) (k g : Nat) (hk : k < 10) (ho : o.op = .fieldAddr 97 x k) (hx : ρ x = .pointer (some ⟨g, 0, none⟩)) : (execOp ρ o).run Tryz.prog w = .ok (.value (.pointer (some ⟨g, k, none⟩))) w := by
  have : k = 0 ∨ k = 1 ∨ k = 2 ∨ k = 3 ∨ k = 4 ∨ k = 5 ∨ k = 6 ∨ k = 7 ∨ k = 8 ∨ k = 9 := by omega
  rcases this with rfl | rfl | rfl | rfl | rfl | rfl | rfl | rfl | rfl | rfl <;> simp [execOp, ho, hx, go_sem]
theorem ex_fa63 (x : Operand) (g : Nat) (ho : o.op = .fieldAddr 63 x 15) (hx : ρ x = .pointer (some ⟨g, 0, none⟩)) : (execOp ρ o).run Tryz.prog w = .ok (.value (.pointer (some ⟨g, 15, none⟩))) w := by
  simp [execOp, ho, hx, go_sem]
theorem ex_fa77 (x : Operand) (g : Nat) (ho : o.op = .fieldAddr 77 x 1) (hx : ρ x = .pointer (some ⟨g, 0, none⟩)) : (execOp ρ o).run Tryz.prog w = .ok (.value (.pointer (some ⟨g, 1, none⟩))) w := by
  simp [execOp, ho, hx, go_sem]
theorem ex_ld (t : TypeId) (x : Operand) (g k : Nat) (v : Value) (ht : t = 9 ∨ t = 23 ∨ t = 4 ∨ t = 60 ∨ t = 61) (ho : o.op = .load t x) (hx : ρ x = .pointer (some ⟨g, k, none⟩)) (hv : w.cell? ⟨g, k, none⟩ = some v) : (execOp ρ o).run Tryz.prog w = .ok (.value v) w := by
  rcases ht with rfl | rfl | rfl | rfl | rfl <;> simp [execOp, ho, hx, hv, go_sem]
theorem ex_build63 (x0 x1 x2 x3 x4 x5 x6 x7 x8 x9 x10 x11 x12 x13 x14 : Operand) (v : Vrt) (ho : o.op = .build 63 #[(0, x0), (1, x1), (2, x2), (3, x3), (4, x4), (5, x5), (6, x6), (7, x7), (8, x8), (9, x9), (10, x10), (11, x11), (12, x12), (13, x13), (14, x14), (15, .const (.slice none 0 0))]) (hρ : ∀ v, ρ (.const v) = v)
    (h0 : ρ x0 = .string (S v.uri)) (h1 : ρ x1 = .int .u32 v.prog) (h2 : ρ x2 = .int .u32 v.band) (h3 : ρ x3 = .int .u32 v.avg) (h4 : ρ x4 = .string (S v.codecs)) (h5 : ρ x5 = .string (S v.resolution)) (h6 : ρ x6 = .string (S v.audio)) (h7 : ρ x7 = .string (S v.video)) (h8 : ρ x8 = .string (S v.subs)) (h9 : ρ x9 = .string (S v.caps)) (h10 : ρ x10 = .string (S v.name)) (h11 : ρ x11 = .bool false) (h12 : ρ x12 = .string ⟨#[]⟩) (h13 : ρ x13 = .string ⟨#[]⟩) (h14 : ρ x14 = .float .f64 (rateW v.rate)) :
    (execOp ρ o).run Tryz.prog w = .ok (.value (.agg (xCells v nilS).toArray)) w := by
  simp [execOp, ho, hρ, h0, h1, h2, h3, h4, h5, h6, h7, h8, h9, h10, h11, h12, h13, h14, go_sem, xCells, nilS]
theorem ex_build67 (x0 x1 x2 x3 x4 x5 x6 x7 x8 x9 : Operand) (a : Alt) (ho : o.op = .build 67 #[(0, x0), (1, x1), (2, x2), (3, x3), (4, x4), (5, x5), (6, x6), (7, x7), (8, x8), (9, x9)])
    (h0 : ρ x0 = .string (S a.group)) (h1 : ρ x1 = .string (S a.uri)) (h2 : ρ x2 = .string (S a.type)) (h3 : ρ x3 = .string (S a.lang)) (h4 : ρ x4 = .string (S a.name)) (h5 : ρ x5 = .bool a.dflt) (h6 : ρ x6 = .string (S a.auto)) (h7 : ρ x7 = .string ⟨#[]⟩) (h8 : ρ x8 = .string ⟨#[]⟩) (h9 : ρ x9 = .string ⟨#[]⟩) :
    (execOp ρ o).run Tryz.prog w = .ok (.value (.agg (aCells a).toArray)) w := by
  simp [execOp, ho, h0, h1, h2, h3, h4, h5, h6, h7, h8, h9, go_sem, aCells]
theorem ex_alloc63 (ho : o.op = .alloc 63) : (execOp ρ o).run Tryz.prog w = .ok (.value (.pointer (some ⟨w.heap.size, 0, none⟩))) (w.alloc (.cells xZero.toArray 63)) := by
  simp [execOp, ho, go_sem, xZero]
theorem ex_alloc31 (ho : o.op = .alloc 31) : (execOp ρ o).run Tryz.prog w = .ok (.value (.pointer (some ⟨w.heap.size, 0, none⟩))) (w.alloc (.cells (mCells nilS 0 false).toArray 31)) := by
  simp [execOp, ho, go_sem, mCells, nilS]
theorem ex_slice61 (x : Operand) (a : Alt) (ho : o.op = .buildSlice 61 1 #[(0, x)]) (hx : ρ x = .agg (aCells a).toArray) :
    (execOp ρ o).run Tryz.prog w = .ok (.value (.slice (some ⟨w.heap.size, 0, none⟩) 1 1)) (w.alloc (.cells (aCells a).toArray 67)) := by
  simp [execOp, ho, hx, go_sem, aCells]
theorem ex_store61 (x y : Operand) (g k : Nat) (u v : Value) (ho : o.op = .store 61 x y) (hx : ρ x = .pointer (some ⟨g, k, none⟩)) (hy : ρ y = v) (hs : ∃ A n c, v = .slice A n c) (hu : w.cell? ⟨g, k, none⟩ = some u) (hf : w.frozen? ⟨g, k, none⟩ = false) :
    (execOp ρ o).run Tryz.prog w = .ok .skip (w.setCell ⟨g, k, none⟩ v) := by
  obtain ⟨A, n, c, rfl⟩ := hs
  simp [execOp, ho, hx, hy, hu, hf, go_sem]
theorem ex_build31 (x1 x2 x3 : Operand) (ver : Nat) (ind : Bool) (ho : o.op = .build 31 #[(1, x1), (2, x2), (3, x3)]) (h1 : ρ x1 = .string ⟨#[]⟩) (h2 : ρ x2 = .int .i64 ver) (h3 : ρ x3 = .bool ind) :
    (execOp ρ o).run Tryz.prog w = .ok (.value (.agg (mCells nilS ver ind).toArray)) w := by
  simp [execOp, ho, h1, h2, h3, go_sem, mCells, nilS]
theorem ex_conv53 (x : Operand) (k : Nat) (hk : k ≤ 200) (ho : o.op = .convert 5 3 x) (hx : ρ x = .int .u8 k) : (execOp ρ o).run Tryz.prog w = .ok (.value (.int .i64 k)) w := by
  simp [execOp, ho, hx, go_sem]
  unfold IntKind.wrap
  simp [IntKind.bits, IntKind.signed]
  omega
theorem ex_call28 (f : Nat) (x : Operand) (v : Value) (h28 : f = 28 ∨ f = 29) (ho : o.op = .call { callee := .value (.func f), args := #[x], argTypes := #[48] }) (hf : ∀ f, ρ (.func f) = .func (.func f) #[] #[]) (hx : ρ x = v) : (execOp ρ o).run Tryz.prog w = .ok (.enter f #[v]) w := by
  rcases h28 with rfl | rfl <;> simp [execOp, ho, hx, hf, go_sem]
theorem ex_store31 (x y : Operand) (g : Nat) (l : List Value) (ver : Nat) (ind : Bool) (ho : o.op = .store 31 x y) (hx : ρ x = .pointer (some ⟨g, 0, none⟩)) (hy : ρ y = .agg (mCells nilS ver ind).toArray) (hl : l.length = 4) (hb : Box w g 31 l) :
    ∃ w', (execOp ρ o).run Tryz.prog w = .ok .skip w' ∧ Box w' g 31 (mCells nilS ver ind) ∧ Chg (fun i => i = g) w w' := by
  have hf := fun k => frozen_of_row w g k l.toArray 31 hb
  have hc : ∀ k, k < 4 → ∃ u, w.cell? ⟨g, k, none⟩ = some u := fun k hk => ⟨l[k], hb.cell k (by simp [hl, hk])⟩
  obtain ⟨u0, c0⟩ := hc 0 (by omega)
  obtain ⟨u1, c1⟩ := hc 1 (by omega)
  obtain ⟨u2, c2⟩ := hc 2 (by omega)
  obtain ⟨u3, c3⟩ := hc 3 (by omega)
  obtain ⟨r, hr⟩ : ∃ r, (execOp ρ o).run Tryz.prog w = r := ⟨_, rfl⟩
  have h0 := hr
  simp [execOp, ho, hx, hy, go_sem, mCells, nilS, hf, c0, c1, c2, c3] at hr
  refine ⟨_, h0.trans hr.symm, ?_, ?_⟩
  · have := (((hb.set 0 (.slice none 0 0)).set 1 (.string ⟨#[]⟩)).set 2 (.int .i64 ver)).set 3 (.bool ind)
    match l, hl with
    | [_, _, _, _], _ => exact this
  · exact ((((Chg.refl (fun i => i = g) w).setCell ⟨g, 0, none⟩ _ (fun _ => rfl)).setCell ⟨g, 1, none⟩ _ (fun _ => rfl)).setCell ⟨g, 2, none⟩ _ (fun _ => rfl)).setCell ⟨g, 3, none⟩ _ (fun _ => rfl)
end
theorem version_any (P : Nat) (vv : Value) (ver : Nat) (ind : Bool) (w : World) (h : Box w P 77 (mplCells vv ver ind)) : Calls Tryz.prog 28 #[ptr P] w fun e w' => e = .returned (.int .u8 ver) ∧ w = w' := by
  have c := h.cell 6 rfl
  unfold ptr
  go_enter Tryz.func28, Tryz.ntmps28
  go_wp2
  go_ret
  exact ⟨rfl, rfl⟩
theorem independent_any (P : Nat) (vv : Value) (ver : Nat) (ind : Bool) (w : World) (h : Box w P 77 (mplCells vv ver ind)) : Calls Tryz.prog 29 #[ptr P] w fun e w' => e = .returned (.bool ind) ∧ w = w' := by
  have c := h.cell 7 rfl
  unfold ptr
  go_enter Tryz.func29, Tryz.ntmps29
  go_wp2
  go_ret
  exact ⟨rfl, rfl⟩
end Go.Proofs.YtelkphcbopbhoaaGreatDoor
