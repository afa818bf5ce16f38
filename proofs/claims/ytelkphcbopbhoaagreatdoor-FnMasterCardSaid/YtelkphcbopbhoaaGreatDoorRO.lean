/-
  Single operations, over operands that are variables.
-/
import Derived.Test.YtelkphcbopbhoaaGreatDoorRH
namespace Go.Proofs.YtelkphcbopbhoaaGreatDoor
open Go Go.RowKit

theorem and_one (h : Nat) (hh : h < 4294967296) : bits BinOp.and .u32 (h : Int) 1 = ((h % 2 : Nat) : Int) := by
  have two32 : (2 : Int) ^ 32 = 4294967296 := by decide
  have k := bits_mask .u32 32 (by decide) (fun n h0 h1 => by rw [two32] at h1; unfold IntKind.wrap; simp [IntKind.bits, IntKind.signed]; omega) 1 (by decide) (h : Int) (by omega) (by rw [two32]; omega)
  have e : ((2 : Int) ^ 1 - 1) = 1 := by decide
  rw [e] at k
  rw [k]
  omega

section
variable {ρ : Operand → Value} {o : Oper} {w : World} {h : Nat}
theorem ex_move (x : Operand) (ho : o.op = .move x) : (execOp ρ o).run Tryz.prog w = .ok (.value (ρ x)) w := by simp [execOp, ho, go_sem]
theorem ex_shr (x : Operand) (c : Nat) (hc : c < 32) (hh : h < 4294967296) (ho : o.op = .binOp .shr 23 x (.const (.int .u64 c)) 37) (hρ : ∀ v, ρ (.const v) = v) (hx : ρ x = .int .u32 h) : (execOp ρ o).run Tryz.prog w = .ok (.value (.int .u32 ((h / 2 ^ c : Nat) : Int))) w := by
  simp [execOp, ho, hx, hρ, go_sem]
theorem ex_rem (x : Operand) (c : Nat) (hc : 0 < c) (hh : h < 4294967296) (ho : o.op = .binOp .rem 23 x (.const (.int .u32 c)) 23) (hρ : ∀ v, ρ (.const v) = v) (hx : ρ x = .int .u32 h) : (execOp ρ o).run Tryz.prog w = .ok (.value (.int .u32 ((h % c : Nat) : Int))) w := by
  have hc' : ¬ c = 0 := by omega
  simp [execOp, ho, hx, hρ, hc', go_sem, Int.tmod]
theorem ex_and (x : Operand) (hh : h < 4294967296) (ho : o.op = .binOp .and 23 x (.const (.int .u32 1)) 23) (hρ : ∀ v, ρ (.const v) = v) (hx : ρ x = .int .u32 h) : (execOp ρ o).run Tryz.prog w = .ok (.value (.int .u32 ((h % 2 : Nat) : Int))) w := by
  simp [execOp, ho, hx, hρ, go_sem, and_one h hh]
theorem ex_eql (x : Operand) (ho : o.op = .binOp .eql 23 x (.const (.int .u32 1)) 23) (hρ : ∀ v, ρ (.const v) = v) (hx : ρ x = .int .u32 h) : (execOp ρ o).run Tryz.prog w = .ok (.value (.bool ((h : Int) == 1))) w := by
  simp [execOp, ho, hx, hρ, go_sem]
theorem ex_fieldAddr (x : Operand) (k g : Nat) (hk : k < 4) (ho : o.op = .fieldAddr 27 x k) (hx : ρ x = .pointer (some ⟨g, 0, none⟩)) : (execOp ρ o).run Tryz.prog w = .ok (.value (.pointer (some ⟨g, k, none⟩))) w := by
  have : k = 0 ∨ k = 1 ∨ k = 2 ∨ k = 3 := by omega
  rcases this with rfl | rfl | rfl | rfl <;> simp [execOp, ho, hx, go_sem]
theorem ex_indexAddr (x y : Operand) (g k n : Nat) (hk : k < n) (hn : n ≤ 3) (ho : o.op = .indexAddr 39 x y) (hx : ρ x = .slice (some ⟨g, 0, none⟩) n n) (hy : ρ y = .int .u32 k) : (execOp ρ o).run Tryz.prog w = .ok (.value (.pointer (some ⟨g, k, none⟩))) w := by
  simp [execOp, ho, hx, hy, go_sem]
  intro h; omega
theorem ex_load9 (x : Operand) (g k : Nat) (v : Value) (ho : o.op = .load 9 x) (hx : ρ x = .pointer (some ⟨g, k, none⟩)) (hv : w.cell? ⟨g, k, none⟩ = some v) : (execOp ρ o).run Tryz.prog w = .ok (.value v) w := by
  simp [execOp, ho, hx, hv, go_sem]
theorem ex_load24 (x : Operand) (g k : Nat) (v : Value) (ho : o.op = .load 24 x) (hx : ρ x = .pointer (some ⟨g, k, none⟩)) (hv : w.cell? ⟨g, k, none⟩ = some v) : (execOp ρ o).run Tryz.prog w = .ok (.value v) w := by
  simp [execOp, ho, hx, hv, go_sem]
theorem ex_slice3 (a b c : Value) (ho : o.op = .buildSlice 39 3 #[(0, .const a), (1, .const b), (2, .const c)]) (hρ : ∀ v, ρ (.const v) = v) (ha : ∃ s, a = .string s) (hb : ∃ s, b = .string s) (hc : ∃ s, c = .string s) :
    (execOp ρ o).run Tryz.prog w = .ok (.value (.slice (some ⟨w.heap.size, 0, none⟩) 3 3)) (w.alloc (.cells #[a, b, c] 9)) := by
  obtain ⟨a, rfl⟩ := ha
  obtain ⟨b, rfl⟩ := hb
  obtain ⟨c, rfl⟩ := hc
  simp [execOp, ho, hρ, go_sem]
theorem ex_slice2 (a b : Value) (ho : o.op = .buildSlice 39 2 #[(0, .const a), (1, .const b)]) (hρ : ∀ v, ρ (.const v) = v) (ha : ∃ s, a = .string s) (hb : ∃ s, b = .string s) :
    (execOp ρ o).run Tryz.prog w = .ok (.value (.slice (some ⟨w.heap.size, 0, none⟩) 2 2)) (w.alloc (.cells #[a, b] 9)) := by
  obtain ⟨a, rfl⟩ := ha
  obtain ⟨b, rfl⟩ := hb
  simp [execOp, ho, hρ, go_sem]
theorem ex_conv (x : Operand) (k : Nat) (hk : k ≤ 1000) (ho : o.op = .convert 3 42 x) (hx : ρ x = .int .i64 k) : (execOp ρ o).run Tryz.prog w = .ok (.value (.int .u64 k)) w := by
  simp [execOp, ho, hx, go_sem]
  unfold IntKind.wrap
  simp [IntKind.bits, IntKind.signed]
  omega
theorem ex_call10 (x : Operand) (v : Value) (ho : o.op = .call { callee := .value (.func 10), args := #[x], argTypes := #[42] }) (hf : ∀ f, ρ (.func f) = .func (.func f) #[] #[]) (hx : ρ x = v) : (execOp ρ o).run Tryz.prog w = .ok (.enter 10 #[v]) w := by
  simp [execOp, ho, hx, hf, go_sem]
theorem ex_concat (s : Bs) (x : Operand) (t : Bs) (hs : s.length + t.length ≤ 1000000) (ho : o.op = .binOp .add 9 (.const (.string (S s))) x 9) (hρ : ∀ v, ρ (.const v) = v) (hx : ρ x = .string (S t)) : (execOp ρ o).run Tryz.prog w = .ok (.value (.string (S (s ++ t)))) w := by
  have hb : (S s).size + (S t).size ≤ 1000000 := hs
  simp [execOp, ho, hx, hρ, go_sem]
  rw [if_neg (by omega), S_append]
theorem ex_build44 (x0 x1 x2 x3 x4 x5 x6 : Operand) (a : Alt) (ho : o.op = .build 44 #[(0, x0), (1, x1), (2, x2), (3, x3), (4, x4), (5, x5), (6, x6)])
    (h0 : ρ x0 = .string (S a.type)) (h1 : ρ x1 = .string (S a.group)) (h2 : ρ x2 = .string (S a.name)) (h3 : ρ x3 = .bool a.dflt) (h4 : ρ x4 = .string (S a.auto)) (h5 : ρ x5 = .string (S a.lang)) (h6 : ρ x6 = .string (S a.uri)) :
    (execOp ρ o).run Tryz.prog w = .ok (.value (altVal a)) w := by
  simp [execOp, ho, h0, h1, h2, h3, h4, h5, h6, go_sem, altVal, altCells]
theorem ex_slice24 (x : Operand) (a : Alt) (ho : o.op = .buildSlice 24 1 #[(0, x)]) (hx : ρ x = altVal a) :
    (execOp ρ o).run Tryz.prog w = .ok (.value (.slice (some ⟨w.heap.size, 0, none⟩) 1 1)) (w.alloc (.cells (altCells a).toArray 44)) := by
  simp [execOp, ho, hx, go_sem, altVal, altCells]
theorem ex_store24 (x y : Operand) (g k : Nat) (u v : Value) (ho : o.op = .store 24 x y) (hx : ρ x = .pointer (some ⟨g, k, none⟩)) (hy : ρ y = v) (hs : ∃ A n c, v = .slice A n c) (hu : w.cell? ⟨g, k, none⟩ = some u) (hf : w.frozen? ⟨g, k, none⟩ = false) :
    (execOp ρ o).run Tryz.prog w = .ok .skip (w.setCell ⟨g, k, none⟩ v) := by
  obtain ⟨A, n, c, rfl⟩ := hs
  simp [execOp, ho, hx, hy, hu, hf, go_sem]
end
end Go.Proofs.YtelkphcbopbhoaaGreatDoor
