/-
  Walks: sameMaster.
-/
import Derived.Test.YtelkphcbopbhoaaGreatDoorW31
import Derived.Test.YtelkphcbopbhoaaGreatDoorW13
import Derived.Test.YtelkphcbopbhoaaGreatDoorLF
import Derived.Deep.CutRange
namespace Go.Proofs.YtelkphcbopbhoaaGreatDoor
open Go Go.RowKit

theorem flat_get {α : Type} (f : α → List Value) (sz : Nat) (hf : ∀ a, (f a).length = sz) : ∀ (l : List α) (k j : Nat) (x : α), l[k]? = some x → j < sz → (l.flatMap f)[k * sz + j]? = (f x)[j]?
  | [], k, j, x, h, _ => by simp at h
  | a :: l, 0, j, x, h, hj => by
    simp only [List.getElem?_cons_zero, Option.some.injEq] at h
    subst h
    rw [Nat.zero_mul, Nat.zero_add, List.flatMap_cons, List.getElem?_append_left (by rw [hf]; exact hj)]
  | a :: l, k + 1, j, x, h, hj => by
    simp only [List.getElem?_cons_succ] at h
    rw [List.flatMap_cons, List.getElem?_append_right (by rw [hf, Nat.add_mul]; omega), hf, show (k + 1) * sz + j - sz = k * sz + j from by rw [Nat.add_mul]; omega]
    exact flat_get f sz hf l k j x h hj

theorem wpOp_guard {P : Program} {ops : Array Oper} {Q : Exit → Act → World → Prop} {i : Nat} {o : Oper} {K : Act → World → Prop} {a : Act} {w : World} (g : Nat) (b : Bool) (d : Tmp) (h : ops[i]? = some o) (hg : o.guard = some (g, b)) (hd : (ops[g]?).bind (·.dst) = some d) (hv : a.eval (.tmp d) = .bool b) (ho : o.wp P a w K Q) : wpOp P ops Q i K a w := by
  have hy : yielded ops a.tmps g = some b := by
    unfold yielded
    rw [hd]
    have h2 : a.tmps.getD d undef = .bool b := hv
    rw [Array.getD_eq_getD_getElem?] at h2
    cases e : a.tmps[d]? with
    | none => rw [e] at h2; cases h2
    | some u => rw [e] at h2; simp only [Option.getD_some] at h2; subst h2; simp [e]
  unfold wpOp
  rw [h]
  simp only [Region.wanted, hg, hy]
  simpa using .inl ho
section
variable {ρ : Operand → Value} {o : Oper} {w : World}
theorem ex_fa63k (x : Operand) (k g : Nat) (hk : k < 15) (ho : o.op = .fieldAddr 63 x k) (hx : ρ x = .pointer (some ⟨g, 0, none⟩)) : (execOp ρ o).run Tryz.prog w = .ok (.value (.pointer (some ⟨g, k, none⟩))) w := by
  have : k = 0 ∨ k = 1 ∨ k = 2 ∨ k = 3 ∨ k = 4 ∨ k = 5 ∨ k = 6 ∨ k = 7 ∨ k = 8 ∨ k = 9 ∨ k = 10 ∨ k = 11 ∨ k = 12 ∨ k = 13 ∨ k = 14 := by omega
  rcases this with rfl | rfl | rfl | rfl | rfl | rfl | rfl | rfl | rfl | rfl | rfl | rfl | rfl | rfl | rfl <;> simp [execOp, ho, hx, go_sem]
theorem ex_fa46k (x : Operand) (k g : Nat) (hk : k < 13) (ho : o.op = .fieldAddr 46 x k) (hx : ρ x = .pointer (some ⟨g, 0, none⟩)) : (execOp ρ o).run Tryz.prog w = .ok (.value (.pointer (some ⟨g, k, none⟩))) w := by
  have : k = 0 ∨ k = 1 ∨ k = 2 ∨ k = 3 ∨ k = 4 ∨ k = 5 ∨ k = 6 ∨ k = 7 ∨ k = 8 ∨ k = 9 ∨ k = 10 ∨ k = 11 ∨ k = 12 := by omega
  rcases this with rfl | rfl | rfl | rfl | rfl | rfl | rfl | rfl | rfl | rfl | rfl | rfl | rfl <;> simp [execOp, ho, hx, go_sem]
theorem ex_ld3 (t : TypeId) (x : Operand) (g k : Nat) (v : Value) (ht : t = 9 ∨ t = 23 ∨ t = 4 ∨ t = 60 ∨ t = 3) (ho : o.op = .load t x) (hx : ρ x = .pointer (some ⟨g, k, none⟩)) (hv : w.cell? ⟨g, k, none⟩ = some v) : (execOp ρ o).run Tryz.prog w = .ok (.value v) w := by
  rcases ht with rfl | rfl | rfl | rfl | rfl <;> simp [execOp, ho, hx, hv, go_sem]
theorem ex_neqs (x y : Operand) (s : ByteArray) (ho : o.op = .binOp .neq 9 x y 9) (hx : ρ x = .string s) (hy : ρ y = .string s) : (execOp ρ o).run Tryz.prog w = .ok (.value (.bool false)) w := by
  simp [execOp, ho, hx, hy, go_sem]
theorem ex_nequ (x y : Operand) (n : Int) (ho : o.op = .binOp .neq 23 x y 23) (hx : ρ x = .int .u32 n) (hy : ρ y = .int .u32 n) : (execOp ρ o).run Tryz.prog w = .ok (.value (.bool false)) w := by
  simp [execOp, ho, hx, hy, go_sem]
theorem ex_neqf (x y : Operand) (r f : Nat) (h : Ieee.double.order r f = some .eq) (ho : o.op = .binOp .neq 60 x y 60) (hx : ρ x = .float .f64 r) (hy : ρ y = .float .f64 f) : (execOp ρ o).run Tryz.prog w = .ok (.value (.bool false)) w := by
  have h2 : FloatKind.f64.format.order r f = some .eq := h
  simp [execOp, ho, hx, hy, h2, go_sem]
theorem ex_pick (x y : Operand) (b : Bool) (ho : o.op = .pick x (.const (.bool true)) y) (hx : ρ x = .bool false) (hy : ρ y = .bool b) : (execOp ρ o).run Tryz.prog w = .ok (.value (.bool b)) w := by
  simp [execOp, ho, hx, hy, go_sem]
theorem ex_mul8 (x : Operand) (a r : Nat) (h : Ieee.double.mul a 4620693217682128896 = some r) (ho : o.op = .binOp .mul 60 x (.const (.float .f64 4620693217682128896)) 60) (hρ : ∀ v, ρ (.const v) = v) (hx : ρ x = .float .f64 a) : (execOp ρ o).run Tryz.prog w = .ok (.value (.float .f64 r)) w := by
  have h2 := fun w => run_float_arith (P := Tryz.prog) w .mul 60 .f64 _ _ _ (show floatBits .mul .f64 a 4620693217682128896 = some r from h)
  simp [execOp, ho, hx, hρ, h2, go_sem]
theorem ex_cvf (x : Operand) (n : Nat) (_hn : n ≤ 1000) (ho : o.op = .convert 3 60 x) (hx : ρ x = .int .i64 n) : (execOp ρ o).run Tryz.prog w = .ok (.value (.float .f64 (floatOfInt .f64 (n : Int)))) w := by
  simp [execOp, ho, hx, go_sem]
theorem ex_load46 (x : Operand) (g : Nat) (v : Vrt) (ho : o.op = .load 46 x) (hx : ρ x = .pointer (some ⟨g, 0, none⟩)) (hb : Box w g 46 (vrtCells v)) : (execOp ρ o).run Tryz.prog w = .ok (.value (vrtVal v)) w := by
  have c0 := hb.cell 0 rfl
  have c1 := hb.cell 1 rfl
  have c2 := hb.cell 2 rfl
  have c3 := hb.cell 3 rfl
  have c4 := hb.cell 4 rfl
  have c5 := hb.cell 5 rfl
  have c6 := hb.cell 6 rfl
  have c7 := hb.cell 7 rfl
  have c8 := hb.cell 8 rfl
  have c9 := hb.cell 9 rfl
  have c10 := hb.cell 10 rfl
  have c11 := hb.cell 11 rfl
  have c12 := hb.cell 12 rfl
  simp [execOp, ho, hx, c0, c1, c2, c3, c4, c5, c6, c7, c8, c9, c10, c11, c12, go_sem, vrtVal, vrtCells]
theorem ex_call21 (x : Operand) (v : Value) (ho : o.op = .call { callee := .value (.func 21), args := #[x], argTypes := #[46] }) (hf : ∀ f, ρ (.func f) = .func (.func f) #[] #[]) (hx : ρ x = v) : (execOp ρ o).run Tryz.prog w = .ok (.enter 21 #[v]) w := by
  simp [execOp, ho, hx, hf, go_sem]
end
def DL7 : List (Option Tmp) := [some 46, some 47, some 48, some 49, some 50, some 51, some 52, some 53, some 54, some 55, some 56, some 57, some 58, some 59, some 60, some 61, some 62, some 63, some 64, some 65, some 66, some 67, some 68, some 69, some 70, some 71, some 72, some 73, some 74, some 75, some 76, some 77, some 78, some 79, some 80, some 81, some 82, some 83, some 84, some 85, some 86, some 87, some 88, some 89, some 90, some 91, some 92, some 93, some 94, some 95, some 96, some 97, some 98, some 99, some 100, some 101, some 102, some 103, some 104, some 105, some 106, some 107, some 108, some 109, some 110, some 111, some 112, some 113, some 114, some 115, some 116, some 117, some 118, some 119, some 120, some 121, some 122, some 123, some 124, some 125, some 126, some 127, some 128, some 129, some 130, some 131, some 132, some 133]
def L7 (X Y : Nat) (v : Vrt) (rr : Nat) : List QK :=
  [.eq (.pointer (some ⟨X, 0, none⟩)), .eq (.string (S v.uri)), .eq (.pointer (some ⟨Y, 0, none⟩)), .eq (.string (S v.uri)), .eq (.bool false), .eq (.bool false), .eq (.pointer (some ⟨X, 1, none⟩)), .eq (.int .u32 v.prog), .eq (.pointer (some ⟨Y, 1, none⟩)), .eq (.int .u32 v.prog), .eq (.bool false), .eq (.bool false), .eq (.bool false), .eq (.pointer (some ⟨X, 2, none⟩)), .eq (.int .u32 v.band), .eq (.pointer (some ⟨Y, 2, none⟩)), .eq (.int .u32 v.band), .eq (.bool false), .eq (.bool false), .eq (.bool false), .eq (.pointer (some ⟨X, 3, none⟩)), .eq (.int .u32 v.avg), .eq (.pointer (some ⟨Y, 3, none⟩)), .eq (.int .u32 v.avg), .eq (.bool false), .eq (.bool false), .eq (.bool false), .eq (.pointer (some ⟨X, 4, none⟩)), .eq (.string (S v.codecs)), .eq (.pointer (some ⟨Y, 4, none⟩)), .eq (.string (S v.codecs)), .eq (.bool false), .eq (.bool false), .eq (.bool false), .eq (.pointer (some ⟨X, 5, none⟩)), .eq (.string (S v.resolution)), .eq (vrtVal v), .eq (.string (S v.resolution)), .eq (.bool false), .eq (.bool false), .eq (.bool false), .eq (.pointer (some ⟨X, 6, none⟩)), .eq (.string (S v.audio)), .eq (.pointer (some ⟨Y, 7, none⟩)), .eq (.string (S v.audio)), .eq (.bool false), .eq (.bool false), .eq (.bool false), .eq (.pointer (some ⟨X, 7, none⟩)), .eq (.string (S v.video)), .eq (.pointer (some ⟨Y, 8, none⟩)), .eq (.string (S v.video)), .eq (.bool false), .eq (.bool false), .eq (.bool false), .eq (.pointer (some ⟨X, 8, none⟩)), .eq (.string (S v.subs)), .eq (.pointer (some ⟨Y, 9, none⟩)), .eq (.string (S v.subs)), .eq (.bool false), .eq (.bool false), .eq (.bool false), .eq (.pointer (some ⟨X, 9, none⟩)), .eq (.string (S v.caps)), .eq (.pointer (some ⟨Y, 10, none⟩)), .eq (.string (S v.caps)), .eq (.bool false), .eq (.bool false), .eq (.bool false), .eq (.pointer (some ⟨X, 10, none⟩)), .eq (.string (S v.name)), .eq (.pointer (some ⟨Y, 11, none⟩)), .eq (.string (S v.name)), .eq (.bool false), .eq (.bool false), .eq (.bool false), .eq (.pointer (some ⟨X, 14, none⟩)), .eq (.float .f64 (rateW v.rate)), .eq (.float .f64 rr), .eq (.pointer (some ⟨Y, 12, none⟩)), .eq (.int .i64 v.rate), .eq (.float .f64 (floatOfInt .f64 (v.rate : Int))), .eq (.bool false), .eq (.bool false), .eq (.bool false), .eq (.pointer (some ⟨X, 11, none⟩)), .eq (.bool false), .eq (.bool false)]
theorem P7.below {L : List QK} {W0 : World} {B0 : Nat} {a : Act} {listed : Array Bool} {w w' : World} (i d : Nat) (hJ : Chg (fun _ => False) W0 w) (hb : Below w.heap.size w w') {v : Value} (hp : (L[i]?.getD .no).ok B0 v w') :
    ∃ v', a.put (some d) v = a.put (some d) v' ∧ (L[i]?.getD .no).ok B0 v' w' ∧ (∀ j u, listed.getD j false = true → (L[j]?.getD .no).ok B0 u w → (L[j]?.getD .no).ok B0 u w') ∧ Chg (fun _ => False) W0 w' := ⟨v, rfl, hp, fun _ u _ hu => QK.below hb _ u hu, hJ.below hb⟩
theorem P7.pure {L : List QK} {W0 : World} {B0 : Nat} {a : Act} {listed : Array Bool} {w : World} (i d : Nat) (hJ : Chg (fun _ => False) W0 w) {v : Value} (hp : (L[i]?.getD .no).ok B0 v w) :
    ∃ v', a.put (some d) v = a.put (some d) v' ∧ (L[i]?.getD .no).ok B0 v' w ∧ (∀ j u, listed.getD j false = true → (L[j]?.getD .no).ok B0 u w → (L[j]?.getD .no).ok B0 u w) ∧ Chg (fun _ => False) W0 w := P7.below i d hJ (Below.refl _ _) hp

set_option maxRecDepth 100000 in
set_option maxHeartbeats 4000000 in
theorem same_any (ver : Nat) (ind : Bool) (va vv r : Value) (alts : List Alt) (vrts : List Vrt) (b base : Nat) (w : World) (ha : ARow w b va alts) (hv : VRow w b vv vrts) (hm : MRow w base r vrts alts) (hal : alts.length ≤ 4) (hvl : vrts.length ≤ 4) (hvg : ∀ v ∈ vrts, v.Good) (_hver : ver < 8) :
    Calls Tryz.prog 7 #[.agg (mCells r ver ind).toArray, .agg (mstCells ver ind va vv).toArray] w fun e w' => e = .returned (.bool true) ∧ Below w.heap.size w w' := by
  obtain ⟨als, hals, hr, hals2⟩ := hm
  obtain ⟨A0, c0, rfl⟩ := own_shape ha
  obtain ⟨A1, c1, rfl⟩ := own_shape hv
  obtain ⟨A2, c2, rfl⟩ := own_shape hr
  have H := Lib.hid (And.intro ha (And.intro hv (And.intro hals (And.intro hr (And.intro hals2 hvg)))))
  have hvl2 : (vrts.length : Int) ≤ 4 := by omega
  clear ha hv hals hr hals2 hvg
  unfold mCells mstCells
  go_enter Tryz.func7, Tryz.ntmps7
  go_upto_region 1 with fail
  obtain ⟨w1, hw1⟩ : ∃ w1, w1 = (w.alloc (.cells #[.slice A2 vrts.length c2, .string ⟨#[]⟩, .int .i64 ver, .bool ind] 31)).alloc (.cells #[.int .i64 ver, .bool ind, .slice A0 alts.length c0, .slice A1 vrts.length c1] 27) := ⟨_, rfl⟩
  rw [← hw1]
  have hM1 : Box w1 w.heap.size 31 [.slice A2 vrts.length c2, .string ⟨#[]⟩, .int .i64 ver, .bool ind] := by
    have h0 : Box (w.alloc (.cells #[.slice A2 vrts.length c2, .string ⟨#[]⟩, .int .i64 ver, .bool ind] 31)) w.heap.size 31 [.slice A2 vrts.length c2, .string ⟨#[]⟩, .int .i64 ver, .bool ind] := Box.new rfl
    rw [hw1]; exact h0.alloc _
  have hM2 : Box w1 (w.heap.size + 1) 27 [.int .i64 ver, .bool ind, .slice A0 alts.length c0, .slice A1 vrts.length c1] := by rw [hw1]; exact Box.new (by simp)
  have hB1 : Below w.heap.size w w1 := by rw [hw1]; exact ((Below.refl _ _).alloc (Nat.le_refl _) _).alloc (by simp) _
  have HM := Lib.hid (And.intro hM1 (And.intro hM2 hB1))
  have m0 := hM1.cell 0 rfl
  have m2 := hM1.cell 2 rfl
  have m3 := hM1.cell 3 rfl
  have n0 := hM2.cell 0 rfl
  have n1 := hM2.cell 1 rfl
  have n3 := hM2.cell 3 rfl
  clear hw1 hM1 hM2 hB1
  go_wp2_with fail
  clear m0 m2 m3 n0 n1 n3
  go_loopg [36] vrts.length (fun gk i wr => ∃ (k : Nat), k + gk = vrts.length ∧ i = .int .i64 k ∧ Hid (Below w1.heap.size w1 wr))
  case atStart => exact ⟨0, by omega, rfl, Below.refl _ _⟩
  case round =>
    obtain ⟨k, hk, rfl, hB⟩ := hrel
    rename World => w2
    by_cases hlt : k < vrts.length
    · have hlt' : (k : Int) < (vrts.length : Int) := by omega
      have hB2 : Below w.heap.size w w2 := HM.out.2.2.trans (hB.out.mono HM.out.2.2.size)
      obtain ⟨v, hv⟩ : ∃ v, vrts[k]? = some v := ⟨_, List.getElem?_eq_getElem hlt⟩
      obtain ⟨al, hal2⟩ : ∃ al, als[k]? = some al := ⟨_, List.getElem?_eq_getElem (by rw [H.out.2.2.1]; exact hlt)⟩
      have hvG : v.Good := H.out.2.2.2.2.2 v (List.mem_of_getElem? hv)
      obtain ⟨A3, c3, rfl⟩ := own_shape (H.out.2.2.2.2.1 k v al hv hal2)
      obtain ⟨g2, cap2, hgv2, _, _⟩ := World.ownsRow.form H.out.2.2.2.1 (by omega)
      cases hgv2
      obtain ⟨g1, cap1, hgv1, _, _⟩ := World.ownsRow.form H.out.2.1 (by omega)
      cases hgv1
      have hz : (vrts.zip als)[k]? = some (v, .slice A3 (alts.filter v.has).length c3) := by rw [List.getElem?_zip_eq_some]; exact ⟨hv, hal2⟩
      have xc : ∀ (j : Nat) (u : Value), j < 16 → (xCells v (.slice A3 (alts.filter v.has).length c3))[j]? = some u → w2.cell? ⟨g2, k * 16 + j, none⟩ = some u := fun j u hj hu => own_cell (row_below H.out.2.2.2.1 hB2) (by rw [flat_get (fun p : Vrt × Value => xCells p.1 p.2) 16 (fun _ => rfl) _ k j _ hz hj]; exact hu)
      have x0 := xc 0 _ (by omega) rfl
      have x1 := xc 1 _ (by omega) rfl
      have x2 := xc 2 _ (by omega) rfl
      have x3 := xc 3 _ (by omega) rfl
      have x4 := xc 4 _ (by omega) rfl
      have x5 := xc 5 _ (by omega) rfl
      have x6 := xc 6 _ (by omega) rfl
      have x7 := xc 7 _ (by omega) rfl
      have x8 := xc 8 _ (by omega) rfl
      have x9 := xc 9 _ (by omega) rfl
      have x10 := xc 10 _ (by omega) rfl
      have x11 := xc 11 _ (by omega) rfl
      have x12 := xc 12 _ (by omega) rfl
      have x13 := xc 13 _ (by omega) rfl
      have x14 := xc 14 _ (by omega) rfl
      have x15 := xc 15 _ (by omega) rfl
      rw [Nat.add_zero] at x0
      have HV := Lib.hid (And.intro hv (And.intro hal2 (And.intro hvG hB2)))
      clear xc hv hal2 hz hB2 hvG
      have hsf := run_store_f64
      go_upto_region 6 with fail
      clear hsf x0 x1 x2 x3 x4 x5 x6 x7 x8 x9 x10 x11 x12 x13 x14 x15
      obtain ⟨w3, hw3⟩ : ∃ w3, w3 = w2.alloc (.cells (xCells v (.slice A3 (alts.filter v.has).length c3)).toArray 63) := ⟨_, rfl⟩
      have hw3' := hw3
      simp only [xCells] at hw3'
      rw [← hw3']
      clear hw3'
      obtain ⟨X, hX⟩ : ∃ X, X = w2.heap.size := ⟨_, rfl⟩
      rw [← hX]
      have hX3 : Box w3 X 63 (xCells v (.slice A3 (alts.filter v.has).length c3)) := by rw [hw3]; exact Box.new hX
      have hB3 : Below w2.heap.size w2 w3 := by rw [hw3]; exact (Below.refl _ _).alloc (Nat.le_refl _) _
      have hB13 : Below w1.heap.size w1 w3 := hB.out.trans (hB3.mono hB.out.size)
      have hB03 : Below w.heap.size w w3 := HM.out.2.2.trans (hB13.mono HM.out.2.2.size)
      have hMM2 := HM.out.2.1.below hB13
      have n3 := hMM2.cell 3 rfl
      have yc : ∀ (j : Nat) (u : Value), j < 13 → (vrtCells v)[j]? = some u → w3.cell? ⟨g1, k * 13 + j, none⟩ = some u := fun j u hj hu => own_cell (row_below H.out.2.1 hB03) (by rw [flat_get vrtCells 13 (fun _ => rfl) _ k j _ HV.out.1 hj]; exact hu)
      have y0 := yc 0 _ (by omega) rfl
      have y1 := yc 1 _ (by omega) rfl
      have y2 := yc 2 _ (by omega) rfl
      have y3 := yc 3 _ (by omega) rfl
      have y4 := yc 4 _ (by omega) rfl
      have y5 := yc 5 _ (by omega) rfl
      have y6 := yc 6 _ (by omega) rfl
      have y7 := yc 7 _ (by omega) rfl
      have y8 := yc 8 _ (by omega) rfl
      have y9 := yc 9 _ (by omega) rfl
      have y10 := yc 10 _ (by omega) rfl
      have y11 := yc 11 _ (by omega) rfl
      have y12 := yc 12 _ (by omega) rfl
      rw [Nat.add_zero] at y0
      have H3 := Lib.hid (And.intro hX3 (And.intro hB13 hB03))
      clear hX3 hB3 hB13 hB03 hMM2 yc hw3 hX
      go_upto_region 7 with fail
      clear n3 y0 y1 y2 y3 y4 y5 y6 y7 y8 y9 y10 y11 y12
      obtain ⟨w4, hw4⟩ : ∃ w4, w4 = w3.alloc (.cells (vrtCells v).toArray 46) := ⟨_, rfl⟩
      have hw4' := hw4
      simp only [vrtCells] at hw4'
      rw [← hw4']
      clear hw4'
      obtain ⟨Y, hY⟩ : ∃ Y, Y = w3.heap.size := ⟨_, rfl⟩
      rw [← hY]
      have hY4 : Box w4 Y 46 (vrtCells v) := by rw [hw4]; exact Box.new hY
      have hB4 : Below w3.heap.size w3 w4 := by rw [hw4]; exact (Below.refl _ _).alloc (Nat.le_refl _) _
      have hX4 := H3.out.1.below hB4
      have hB14 : Below w1.heap.size w1 w4 := H3.out.2.1.trans (hB4.mono H3.out.2.1.size)
      have H4 := Lib.hid (And.intro hX4 (And.intro hY4 hB14))
      obtain ⟨rr, hr1, hr2⟩ := rate_mul v.rate HV.out.2.2.1.rate
      clear hX4 hY4 hB14 hB4 hw4 hY
      go_cut [133] from 46 to 133 (fun s wx => s = .bool false ∧ Hid (Chg (fun _ => False) w4 wx))
      case first =>
        have hX4 := H4.out.1
        have hY4 := H4.out.2.1
        have hw := HV.out.2.2.1.width
        have hh := HV.out.2.2.1.height
        have hrt := HV.out.2.2.1.rate
        refine wp_region_fill DL7 (by kernel_rfl) (by kernel_rfl) (by kernel_rfl) (fun i u wx => ((L7 X Y v rr)[i]?.getD .no).ok w4.heap.size u wx) (fun _ _ wx => Chg (fun _ => False) w4 wx) ?_ ?_ ?_
        · exact (Chg.refl _ _).drew
        · intro i o ho listed ac wx H hl he
          have hi88 : i < 88 := (Array.getElem?_eq_some_iff.1 ho).1
          rcases (by omega : i = 0 ∨ i = 1 ∨ i = 2 ∨ i = 3 ∨ i = 4 ∨ i = 5 ∨ i = 6 ∨ i = 7 ∨ i = 8 ∨ i = 9 ∨ i = 10 ∨ i = 11 ∨ i = 12 ∨ i = 13 ∨ i = 14 ∨ i = 15 ∨ i = 16 ∨ i = 17 ∨ i = 18 ∨ i = 19 ∨ i = 20 ∨ i = 21 ∨ i = 22 ∨ i = 23 ∨ i = 24 ∨ i = 25 ∨ i = 26 ∨ i = 27 ∨ i = 28 ∨ i = 29 ∨ i = 30 ∨ i = 31 ∨ i = 32 ∨ i = 33 ∨ i = 34 ∨ i = 35 ∨ i = 36 ∨ i = 37 ∨ i = 38 ∨ i = 39 ∨ i = 40 ∨ i = 41 ∨ i = 42 ∨ i = 43 ∨ i = 44 ∨ i = 45 ∨ i = 46 ∨ i = 47 ∨ i = 48 ∨ i = 49 ∨ i = 50 ∨ i = 51 ∨ i = 52 ∨ i = 53 ∨ i = 54 ∨ i = 55 ∨ i = 56 ∨ i = 57 ∨ i = 58 ∨ i = 59 ∨ i = 60 ∨ i = 61 ∨ i = 62 ∨ i = 63 ∨ i = 64 ∨ i = 65 ∨ i = 66 ∨ i = 67 ∨ i = 68 ∨ i = 69 ∨ i = 70 ∨ i = 71 ∨ i = 72 ∨ i = 73 ∨ i = 74 ∨ i = 75 ∨ i = 76 ∨ i = 77 ∨ i = 78 ∨ i = 79 ∨ i = 80 ∨ i = 81 ∨ i = 82 ∨ i = 83 ∨ i = 84 ∨ i = 85 ∨ i = 86 ∨ i = 87) with rfl | rfl | rfl | rfl | rfl | rfl | rfl | rfl | rfl | rfl | rfl | rfl | rfl | rfl | rfl | rfl | rfl | rfl | rfl | rfl | rfl | rfl | rfl | rfl | rfl | rfl | rfl | rfl | rfl | rfl | rfl | rfl | rfl | rfl | rfl | rfl | rfl | rfl | rfl | rfl | rfl | rfl | rfl | rfl | rfl | rfl | rfl | rfl | rfl | rfl | rfl | rfl | rfl | rfl | rfl | rfl | rfl | rfl | rfl | rfl | rfl | rfl | rfl | rfl | rfl | rfl | rfl | rfl | rfl | rfl | rfl | rfl | rfl | rfl | rfl | rfl | rfl | rfl | rfl | rfl | rfl | rfl | rfl | rfl | rfl | rfl | rfl | rfl
          · cases ho
            refine wpOp_plain rfl rfl ?_
            exact op_val (ex_fa63k (.tmp 6) 0 X (by decide) rfl ((H.base 6 (by rfl)).trans rfl)) (P7.pure (L := L7 X Y v rr) 0 46 H.inv rfl)
          · cases ho
            refine wpOp_plain rfl rfl ?_
            exact op_val (ex_ld3 9 (.tmp 46) X 0 _ (by decide) rfl (H.at_ 0 (d := 46) rfl (he ⟨0, .data⟩ (by simp) rfl)) ((hX4.chg H.inv id).cell 0 rfl)) (P7.pure (L := L7 X Y v rr) 1 47 H.inv rfl)
          · cases ho
            refine wpOp_plain rfl rfl ?_
            exact op_val (ex_fa46k (.tmp 7) 0 Y (by decide) rfl ((H.base 7 (by rfl)).trans rfl)) (P7.pure (L := L7 X Y v rr) 2 48 H.inv rfl)
          · cases ho
            refine wpOp_plain rfl rfl ?_
            exact op_val (ex_ld3 9 (.tmp 48) Y 0 _ (by decide) rfl (H.at_ 2 (d := 48) rfl (he ⟨2, .data⟩ (by simp) rfl)) ((hY4.chg H.inv id).cell 0 rfl)) (P7.pure (L := L7 X Y v rr) 3 49 H.inv rfl)
          · cases ho
            refine wpOp_plain rfl rfl ?_
            exact op_val (ex_neqs (.tmp 47) (.tmp 49) _ rfl (H.at_ 1 (d := 47) rfl (he ⟨1, .data⟩ (by simp) rfl)) (H.at_ 3 (d := 49) rfl (he ⟨3, .data⟩ (by simp) rfl))) (P7.pure (L := L7 X Y v rr) 4 50 H.inv rfl)
          · cases ho
            refine wpOp_plain rfl rfl ?_
            exact op_val (ex_move (.tmp 50) rfl) (P7.pure (L := L7 X Y v rr) 5 51 H.inv (H.at_ 4 (d := 50) rfl (he ⟨4, .data⟩ (by simp) rfl)))
          · cases ho
            refine wpOp_guard 5 false 51 rfl rfl rfl (H.at_ 5 (d := 51) rfl (he ⟨5, .guard⟩ (by simp) rfl)) ?_
            exact op_val (ex_fa63k (.tmp 6) 1 X (by decide) rfl ((H.base 6 (by rfl)).trans rfl)) (P7.pure (L := L7 X Y v rr) 6 52 H.inv rfl)
          · cases ho
            refine wpOp_guard 5 false 51 rfl rfl rfl (H.at_ 5 (d := 51) rfl (he ⟨5, .guard⟩ (by simp) rfl)) ?_
            exact op_val (ex_ld3 23 (.tmp 52) X 1 _ (by decide) rfl (H.at_ 6 (d := 52) rfl (he ⟨6, .data⟩ (by simp) rfl)) ((hX4.chg H.inv id).cell 1 rfl)) (P7.pure (L := L7 X Y v rr) 7 53 H.inv rfl)
          · cases ho
            refine wpOp_guard 5 false 51 rfl rfl rfl (H.at_ 5 (d := 51) rfl (he ⟨5, .guard⟩ (by simp) rfl)) ?_
            exact op_val (ex_fa46k (.tmp 7) 1 Y (by decide) rfl ((H.base 7 (by rfl)).trans rfl)) (P7.pure (L := L7 X Y v rr) 8 54 H.inv rfl)
          · cases ho
            refine wpOp_guard 5 false 51 rfl rfl rfl (H.at_ 5 (d := 51) rfl (he ⟨5, .guard⟩ (by simp) rfl)) ?_
            exact op_val (ex_ld3 23 (.tmp 54) Y 1 _ (by decide) rfl (H.at_ 8 (d := 54) rfl (he ⟨8, .data⟩ (by simp) rfl)) ((hY4.chg H.inv id).cell 1 rfl)) (P7.pure (L := L7 X Y v rr) 9 55 H.inv rfl)
          · cases ho
            refine wpOp_guard 5 false 51 rfl rfl rfl (H.at_ 5 (d := 51) rfl (he ⟨5, .guard⟩ (by simp) rfl)) ?_
            exact op_val (ex_nequ (.tmp 53) (.tmp 55) _ rfl (H.at_ 7 (d := 53) rfl (he ⟨7, .data⟩ (by simp) rfl)) (H.at_ 9 (d := 55) rfl (he ⟨9, .data⟩ (by simp) rfl))) (P7.pure (L := L7 X Y v rr) 10 56 H.inv rfl)
          · cases ho
            refine wpOp_plain rfl rfl ?_
            exact op_val (ex_pick (.tmp 51) (.tmp 56) false rfl (H.at_ 5 (d := 51) rfl (he ⟨5, .data⟩ (by simp) rfl)) (H.at_ 10 (d := 56) rfl (he ⟨10, .data⟩ (by simp) rfl))) (P7.pure (L := L7 X Y v rr) 11 57 H.inv rfl)
          · cases ho
            refine wpOp_plain rfl rfl ?_
            exact op_val (ex_move (.tmp 57) rfl) (P7.pure (L := L7 X Y v rr) 12 58 H.inv (H.at_ 11 (d := 57) rfl (he ⟨11, .data⟩ (by simp) rfl)))
          · cases ho
            refine wpOp_guard 12 false 58 rfl rfl rfl (H.at_ 12 (d := 58) rfl (he ⟨12, .guard⟩ (by simp) rfl)) ?_
            exact op_val (ex_fa63k (.tmp 6) 2 X (by decide) rfl ((H.base 6 (by rfl)).trans rfl)) (P7.pure (L := L7 X Y v rr) 13 59 H.inv rfl)
          · cases ho
            refine wpOp_guard 12 false 58 rfl rfl rfl (H.at_ 12 (d := 58) rfl (he ⟨12, .guard⟩ (by simp) rfl)) ?_
            exact op_val (ex_ld3 23 (.tmp 59) X 2 _ (by decide) rfl (H.at_ 13 (d := 59) rfl (he ⟨13, .data⟩ (by simp) rfl)) ((hX4.chg H.inv id).cell 2 rfl)) (P7.pure (L := L7 X Y v rr) 14 60 H.inv rfl)
          · cases ho
            refine wpOp_guard 12 false 58 rfl rfl rfl (H.at_ 12 (d := 58) rfl (he ⟨12, .guard⟩ (by simp) rfl)) ?_
            exact op_val (ex_fa46k (.tmp 7) 2 Y (by decide) rfl ((H.base 7 (by rfl)).trans rfl)) (P7.pure (L := L7 X Y v rr) 15 61 H.inv rfl)
          · cases ho
            refine wpOp_guard 12 false 58 rfl rfl rfl (H.at_ 12 (d := 58) rfl (he ⟨12, .guard⟩ (by simp) rfl)) ?_
            exact op_val (ex_ld3 23 (.tmp 61) Y 2 _ (by decide) rfl (H.at_ 15 (d := 61) rfl (he ⟨15, .data⟩ (by simp) rfl)) ((hY4.chg H.inv id).cell 2 rfl)) (P7.pure (L := L7 X Y v rr) 16 62 H.inv rfl)
          · cases ho
            refine wpOp_guard 12 false 58 rfl rfl rfl (H.at_ 12 (d := 58) rfl (he ⟨12, .guard⟩ (by simp) rfl)) ?_
            exact op_val (ex_nequ (.tmp 60) (.tmp 62) _ rfl (H.at_ 14 (d := 60) rfl (he ⟨14, .data⟩ (by simp) rfl)) (H.at_ 16 (d := 62) rfl (he ⟨16, .data⟩ (by simp) rfl))) (P7.pure (L := L7 X Y v rr) 17 63 H.inv rfl)
          · cases ho
            refine wpOp_plain rfl rfl ?_
            exact op_val (ex_pick (.tmp 58) (.tmp 63) false rfl (H.at_ 12 (d := 58) rfl (he ⟨12, .data⟩ (by simp) rfl)) (H.at_ 17 (d := 63) rfl (he ⟨17, .data⟩ (by simp) rfl))) (P7.pure (L := L7 X Y v rr) 18 64 H.inv rfl)
          · cases ho
            refine wpOp_plain rfl rfl ?_
            exact op_val (ex_move (.tmp 64) rfl) (P7.pure (L := L7 X Y v rr) 19 65 H.inv (H.at_ 18 (d := 64) rfl (he ⟨18, .data⟩ (by simp) rfl)))
          · cases ho
            refine wpOp_guard 19 false 65 rfl rfl rfl (H.at_ 19 (d := 65) rfl (he ⟨19, .guard⟩ (by simp) rfl)) ?_
            exact op_val (ex_fa63k (.tmp 6) 3 X (by decide) rfl ((H.base 6 (by rfl)).trans rfl)) (P7.pure (L := L7 X Y v rr) 20 66 H.inv rfl)
          · cases ho
            refine wpOp_guard 19 false 65 rfl rfl rfl (H.at_ 19 (d := 65) rfl (he ⟨19, .guard⟩ (by simp) rfl)) ?_
            exact op_val (ex_ld3 23 (.tmp 66) X 3 _ (by decide) rfl (H.at_ 20 (d := 66) rfl (he ⟨20, .data⟩ (by simp) rfl)) ((hX4.chg H.inv id).cell 3 rfl)) (P7.pure (L := L7 X Y v rr) 21 67 H.inv rfl)
          · cases ho
            refine wpOp_guard 19 false 65 rfl rfl rfl (H.at_ 19 (d := 65) rfl (he ⟨19, .guard⟩ (by simp) rfl)) ?_
            exact op_val (ex_fa46k (.tmp 7) 3 Y (by decide) rfl ((H.base 7 (by rfl)).trans rfl)) (P7.pure (L := L7 X Y v rr) 22 68 H.inv rfl)
          · cases ho
            refine wpOp_guard 19 false 65 rfl rfl rfl (H.at_ 19 (d := 65) rfl (he ⟨19, .guard⟩ (by simp) rfl)) ?_
            exact op_val (ex_ld3 23 (.tmp 68) Y 3 _ (by decide) rfl (H.at_ 22 (d := 68) rfl (he ⟨22, .data⟩ (by simp) rfl)) ((hY4.chg H.inv id).cell 3 rfl)) (P7.pure (L := L7 X Y v rr) 23 69 H.inv rfl)
          · cases ho
            refine wpOp_guard 19 false 65 rfl rfl rfl (H.at_ 19 (d := 65) rfl (he ⟨19, .guard⟩ (by simp) rfl)) ?_
            exact op_val (ex_nequ (.tmp 67) (.tmp 69) _ rfl (H.at_ 21 (d := 67) rfl (he ⟨21, .data⟩ (by simp) rfl)) (H.at_ 23 (d := 69) rfl (he ⟨23, .data⟩ (by simp) rfl))) (P7.pure (L := L7 X Y v rr) 24 70 H.inv rfl)
          · cases ho
            refine wpOp_plain rfl rfl ?_
            exact op_val (ex_pick (.tmp 65) (.tmp 70) false rfl (H.at_ 19 (d := 65) rfl (he ⟨19, .data⟩ (by simp) rfl)) (H.at_ 24 (d := 70) rfl (he ⟨24, .data⟩ (by simp) rfl))) (P7.pure (L := L7 X Y v rr) 25 71 H.inv rfl)
          · cases ho
            refine wpOp_plain rfl rfl ?_
            exact op_val (ex_move (.tmp 71) rfl) (P7.pure (L := L7 X Y v rr) 26 72 H.inv (H.at_ 25 (d := 71) rfl (he ⟨25, .data⟩ (by simp) rfl)))
          · cases ho
            refine wpOp_guard 26 false 72 rfl rfl rfl (H.at_ 26 (d := 72) rfl (he ⟨26, .guard⟩ (by simp) rfl)) ?_
            exact op_val (ex_fa63k (.tmp 6) 4 X (by decide) rfl ((H.base 6 (by rfl)).trans rfl)) (P7.pure (L := L7 X Y v rr) 27 73 H.inv rfl)
          · cases ho
            refine wpOp_guard 26 false 72 rfl rfl rfl (H.at_ 26 (d := 72) rfl (he ⟨26, .guard⟩ (by simp) rfl)) ?_
            exact op_val (ex_ld3 9 (.tmp 73) X 4 _ (by decide) rfl (H.at_ 27 (d := 73) rfl (he ⟨27, .data⟩ (by simp) rfl)) ((hX4.chg H.inv id).cell 4 rfl)) (P7.pure (L := L7 X Y v rr) 28 74 H.inv rfl)
          · cases ho
            refine wpOp_guard 26 false 72 rfl rfl rfl (H.at_ 26 (d := 72) rfl (he ⟨26, .guard⟩ (by simp) rfl)) ?_
            exact op_val (ex_fa46k (.tmp 7) 4 Y (by decide) rfl ((H.base 7 (by rfl)).trans rfl)) (P7.pure (L := L7 X Y v rr) 29 75 H.inv rfl)
          · cases ho
            refine wpOp_guard 26 false 72 rfl rfl rfl (H.at_ 26 (d := 72) rfl (he ⟨26, .guard⟩ (by simp) rfl)) ?_
            exact op_val (ex_ld3 9 (.tmp 75) Y 4 _ (by decide) rfl (H.at_ 29 (d := 75) rfl (he ⟨29, .data⟩ (by simp) rfl)) ((hY4.chg H.inv id).cell 4 rfl)) (P7.pure (L := L7 X Y v rr) 30 76 H.inv rfl)
          · cases ho
            refine wpOp_guard 26 false 72 rfl rfl rfl (H.at_ 26 (d := 72) rfl (he ⟨26, .guard⟩ (by simp) rfl)) ?_
            exact op_val (ex_neqs (.tmp 74) (.tmp 76) _ rfl (H.at_ 28 (d := 74) rfl (he ⟨28, .data⟩ (by simp) rfl)) (H.at_ 30 (d := 76) rfl (he ⟨30, .data⟩ (by simp) rfl))) (P7.pure (L := L7 X Y v rr) 31 77 H.inv rfl)
          · cases ho
            refine wpOp_plain rfl rfl ?_
            exact op_val (ex_pick (.tmp 72) (.tmp 77) false rfl (H.at_ 26 (d := 72) rfl (he ⟨26, .data⟩ (by simp) rfl)) (H.at_ 31 (d := 77) rfl (he ⟨31, .data⟩ (by simp) rfl))) (P7.pure (L := L7 X Y v rr) 32 78 H.inv rfl)
          · cases ho
            refine wpOp_plain rfl rfl ?_
            exact op_val (ex_move (.tmp 78) rfl) (P7.pure (L := L7 X Y v rr) 33 79 H.inv (H.at_ 32 (d := 78) rfl (he ⟨32, .data⟩ (by simp) rfl)))
          · cases ho
            refine wpOp_guard 33 false 79 rfl rfl rfl (H.at_ 33 (d := 79) rfl (he ⟨33, .guard⟩ (by simp) rfl)) ?_
            exact op_val (ex_fa63k (.tmp 6) 5 X (by decide) rfl ((H.base 6 (by rfl)).trans rfl)) (P7.pure (L := L7 X Y v rr) 34 80 H.inv rfl)
          · cases ho
            refine wpOp_guard 33 false 79 rfl rfl rfl (H.at_ 33 (d := 79) rfl (he ⟨33, .guard⟩ (by simp) rfl)) ?_
            exact op_val (ex_ld3 9 (.tmp 80) X 5 _ (by decide) rfl (H.at_ 34 (d := 80) rfl (he ⟨34, .data⟩ (by simp) rfl)) ((hX4.chg H.inv id).cell 5 rfl)) (P7.pure (L := L7 X Y v rr) 35 81 H.inv rfl)
          · cases ho
            refine wpOp_guard 33 false 79 rfl rfl rfl (H.at_ 33 (d := 79) rfl (he ⟨33, .guard⟩ (by simp) rfl)) ?_
            exact op_val (ex_load46 (.tmp 7) Y v rfl ((H.base 7 (by rfl)).trans rfl) (hY4.chg H.inv id)) (P7.pure (L := L7 X Y v rr) 36 82 H.inv rfl)
          · cases ho
            refine wpOp_guard 33 false 79 rfl rfl rfl (H.at_ 33 (d := 79) rfl (he ⟨33, .guard⟩ (by simp) rfl)) ?_
            refine op_call (ex_call21 (.tmp 82) (vrtVal v) rfl (fun _ => rfl) (H.at_ 36 (d := 82) rfl (he ⟨36, .data⟩ (by simp) rfl))) (resolution_any v wx hw hh) ?_
            rintro e w2 ⟨rfl, hb2⟩
            exact ⟨_, rfl, P7.below (L := L7 X Y v rr) 37 83 H.inv hb2 rfl⟩
          · cases ho
            refine wpOp_guard 33 false 79 rfl rfl rfl (H.at_ 33 (d := 79) rfl (he ⟨33, .guard⟩ (by simp) rfl)) ?_
            exact op_val (ex_neqs (.tmp 81) (.tmp 83) _ rfl (H.at_ 35 (d := 81) rfl (he ⟨35, .data⟩ (by simp) rfl)) (H.at_ 37 (d := 83) rfl (he ⟨37, .data⟩ (by simp) rfl))) (P7.pure (L := L7 X Y v rr) 38 84 H.inv rfl)
          · cases ho
            refine wpOp_plain rfl rfl ?_
            exact op_val (ex_pick (.tmp 79) (.tmp 84) false rfl (H.at_ 33 (d := 79) rfl (he ⟨33, .data⟩ (by simp) rfl)) (H.at_ 38 (d := 84) rfl (he ⟨38, .data⟩ (by simp) rfl))) (P7.pure (L := L7 X Y v rr) 39 85 H.inv rfl)
          · cases ho
            refine wpOp_plain rfl rfl ?_
            exact op_val (ex_move (.tmp 85) rfl) (P7.pure (L := L7 X Y v rr) 40 86 H.inv (H.at_ 39 (d := 85) rfl (he ⟨39, .data⟩ (by simp) rfl)))
          · cases ho
            refine wpOp_guard 40 false 86 rfl rfl rfl (H.at_ 40 (d := 86) rfl (he ⟨40, .guard⟩ (by simp) rfl)) ?_
            exact op_val (ex_fa63k (.tmp 6) 6 X (by decide) rfl ((H.base 6 (by rfl)).trans rfl)) (P7.pure (L := L7 X Y v rr) 41 87 H.inv rfl)
          · cases ho
            refine wpOp_guard 40 false 86 rfl rfl rfl (H.at_ 40 (d := 86) rfl (he ⟨40, .guard⟩ (by simp) rfl)) ?_
            exact op_val (ex_ld3 9 (.tmp 87) X 6 _ (by decide) rfl (H.at_ 41 (d := 87) rfl (he ⟨41, .data⟩ (by simp) rfl)) ((hX4.chg H.inv id).cell 6 rfl)) (P7.pure (L := L7 X Y v rr) 42 88 H.inv rfl)
          · cases ho
            refine wpOp_guard 40 false 86 rfl rfl rfl (H.at_ 40 (d := 86) rfl (he ⟨40, .guard⟩ (by simp) rfl)) ?_
            exact op_val (ex_fa46k (.tmp 7) 7 Y (by decide) rfl ((H.base 7 (by rfl)).trans rfl)) (P7.pure (L := L7 X Y v rr) 43 89 H.inv rfl)
          · cases ho
            refine wpOp_guard 40 false 86 rfl rfl rfl (H.at_ 40 (d := 86) rfl (he ⟨40, .guard⟩ (by simp) rfl)) ?_
            exact op_val (ex_ld3 9 (.tmp 89) Y 7 _ (by decide) rfl (H.at_ 43 (d := 89) rfl (he ⟨43, .data⟩ (by simp) rfl)) ((hY4.chg H.inv id).cell 7 rfl)) (P7.pure (L := L7 X Y v rr) 44 90 H.inv rfl)
          · cases ho
            refine wpOp_guard 40 false 86 rfl rfl rfl (H.at_ 40 (d := 86) rfl (he ⟨40, .guard⟩ (by simp) rfl)) ?_
            exact op_val (ex_neqs (.tmp 88) (.tmp 90) _ rfl (H.at_ 42 (d := 88) rfl (he ⟨42, .data⟩ (by simp) rfl)) (H.at_ 44 (d := 90) rfl (he ⟨44, .data⟩ (by simp) rfl))) (P7.pure (L := L7 X Y v rr) 45 91 H.inv rfl)
          · cases ho
            refine wpOp_plain rfl rfl ?_
            exact op_val (ex_pick (.tmp 86) (.tmp 91) false rfl (H.at_ 40 (d := 86) rfl (he ⟨40, .data⟩ (by simp) rfl)) (H.at_ 45 (d := 91) rfl (he ⟨45, .data⟩ (by simp) rfl))) (P7.pure (L := L7 X Y v rr) 46 92 H.inv rfl)
          · cases ho
            refine wpOp_plain rfl rfl ?_
            exact op_val (ex_move (.tmp 92) rfl) (P7.pure (L := L7 X Y v rr) 47 93 H.inv (H.at_ 46 (d := 92) rfl (he ⟨46, .data⟩ (by simp) rfl)))
          · cases ho
            refine wpOp_guard 47 false 93 rfl rfl rfl (H.at_ 47 (d := 93) rfl (he ⟨47, .guard⟩ (by simp) rfl)) ?_
            exact op_val (ex_fa63k (.tmp 6) 7 X (by decide) rfl ((H.base 6 (by rfl)).trans rfl)) (P7.pure (L := L7 X Y v rr) 48 94 H.inv rfl)
          · cases ho
            refine wpOp_guard 47 false 93 rfl rfl rfl (H.at_ 47 (d := 93) rfl (he ⟨47, .guard⟩ (by simp) rfl)) ?_
            exact op_val (ex_ld3 9 (.tmp 94) X 7 _ (by decide) rfl (H.at_ 48 (d := 94) rfl (he ⟨48, .data⟩ (by simp) rfl)) ((hX4.chg H.inv id).cell 7 rfl)) (P7.pure (L := L7 X Y v rr) 49 95 H.inv rfl)
          · cases ho
            refine wpOp_guard 47 false 93 rfl rfl rfl (H.at_ 47 (d := 93) rfl (he ⟨47, .guard⟩ (by simp) rfl)) ?_
            exact op_val (ex_fa46k (.tmp 7) 8 Y (by decide) rfl ((H.base 7 (by rfl)).trans rfl)) (P7.pure (L := L7 X Y v rr) 50 96 H.inv rfl)
          · cases ho
            refine wpOp_guard 47 false 93 rfl rfl rfl (H.at_ 47 (d := 93) rfl (he ⟨47, .guard⟩ (by simp) rfl)) ?_
            exact op_val (ex_ld3 9 (.tmp 96) Y 8 _ (by decide) rfl (H.at_ 50 (d := 96) rfl (he ⟨50, .data⟩ (by simp) rfl)) ((hY4.chg H.inv id).cell 8 rfl)) (P7.pure (L := L7 X Y v rr) 51 97 H.inv rfl)
          · cases ho
            refine wpOp_guard 47 false 93 rfl rfl rfl (H.at_ 47 (d := 93) rfl (he ⟨47, .guard⟩ (by simp) rfl)) ?_
            exact op_val (ex_neqs (.tmp 95) (.tmp 97) _ rfl (H.at_ 49 (d := 95) rfl (he ⟨49, .data⟩ (by simp) rfl)) (H.at_ 51 (d := 97) rfl (he ⟨51, .data⟩ (by simp) rfl))) (P7.pure (L := L7 X Y v rr) 52 98 H.inv rfl)
          · cases ho
            refine wpOp_plain rfl rfl ?_
            exact op_val (ex_pick (.tmp 93) (.tmp 98) false rfl (H.at_ 47 (d := 93) rfl (he ⟨47, .data⟩ (by simp) rfl)) (H.at_ 52 (d := 98) rfl (he ⟨52, .data⟩ (by simp) rfl))) (P7.pure (L := L7 X Y v rr) 53 99 H.inv rfl)
          · cases ho
            refine wpOp_plain rfl rfl ?_
            exact op_val (ex_move (.tmp 99) rfl) (P7.pure (L := L7 X Y v rr) 54 100 H.inv (H.at_ 53 (d := 99) rfl (he ⟨53, .data⟩ (by simp) rfl)))
          · cases ho
            refine wpOp_guard 54 false 100 rfl rfl rfl (H.at_ 54 (d := 100) rfl (he ⟨54, .guard⟩ (by simp) rfl)) ?_
            exact op_val (ex_fa63k (.tmp 6) 8 X (by decide) rfl ((H.base 6 (by rfl)).trans rfl)) (P7.pure (L := L7 X Y v rr) 55 101 H.inv rfl)
          · cases ho
            refine wpOp_guard 54 false 100 rfl rfl rfl (H.at_ 54 (d := 100) rfl (he ⟨54, .guard⟩ (by simp) rfl)) ?_
            exact op_val (ex_ld3 9 (.tmp 101) X 8 _ (by decide) rfl (H.at_ 55 (d := 101) rfl (he ⟨55, .data⟩ (by simp) rfl)) ((hX4.chg H.inv id).cell 8 rfl)) (P7.pure (L := L7 X Y v rr) 56 102 H.inv rfl)
          · cases ho
            refine wpOp_guard 54 false 100 rfl rfl rfl (H.at_ 54 (d := 100) rfl (he ⟨54, .guard⟩ (by simp) rfl)) ?_
            exact op_val (ex_fa46k (.tmp 7) 9 Y (by decide) rfl ((H.base 7 (by rfl)).trans rfl)) (P7.pure (L := L7 X Y v rr) 57 103 H.inv rfl)
          · cases ho
            refine wpOp_guard 54 false 100 rfl rfl rfl (H.at_ 54 (d := 100) rfl (he ⟨54, .guard⟩ (by simp) rfl)) ?_
            exact op_val (ex_ld3 9 (.tmp 103) Y 9 _ (by decide) rfl (H.at_ 57 (d := 103) rfl (he ⟨57, .data⟩ (by simp) rfl)) ((hY4.chg H.inv id).cell 9 rfl)) (P7.pure (L := L7 X Y v rr) 58 104 H.inv rfl)
          · cases ho
            refine wpOp_guard 54 false 100 rfl rfl rfl (H.at_ 54 (d := 100) rfl (he ⟨54, .guard⟩ (by simp) rfl)) ?_
            exact op_val (ex_neqs (.tmp 102) (.tmp 104) _ rfl (H.at_ 56 (d := 102) rfl (he ⟨56, .data⟩ (by simp) rfl)) (H.at_ 58 (d := 104) rfl (he ⟨58, .data⟩ (by simp) rfl))) (P7.pure (L := L7 X Y v rr) 59 105 H.inv rfl)
          · cases ho
            refine wpOp_plain rfl rfl ?_
            exact op_val (ex_pick (.tmp 100) (.tmp 105) false rfl (H.at_ 54 (d := 100) rfl (he ⟨54, .data⟩ (by simp) rfl)) (H.at_ 59 (d := 105) rfl (he ⟨59, .data⟩ (by simp) rfl))) (P7.pure (L := L7 X Y v rr) 60 106 H.inv rfl)
          · cases ho
            refine wpOp_plain rfl rfl ?_
            exact op_val (ex_move (.tmp 106) rfl) (P7.pure (L := L7 X Y v rr) 61 107 H.inv (H.at_ 60 (d := 106) rfl (he ⟨60, .data⟩ (by simp) rfl)))
          · cases ho
            refine wpOp_guard 61 false 107 rfl rfl rfl (H.at_ 61 (d := 107) rfl (he ⟨61, .guard⟩ (by simp) rfl)) ?_
            exact op_val (ex_fa63k (.tmp 6) 9 X (by decide) rfl ((H.base 6 (by rfl)).trans rfl)) (P7.pure (L := L7 X Y v rr) 62 108 H.inv rfl)
          · cases ho
            refine wpOp_guard 61 false 107 rfl rfl rfl (H.at_ 61 (d := 107) rfl (he ⟨61, .guard⟩ (by simp) rfl)) ?_
            exact op_val (ex_ld3 9 (.tmp 108) X 9 _ (by decide) rfl (H.at_ 62 (d := 108) rfl (he ⟨62, .data⟩ (by simp) rfl)) ((hX4.chg H.inv id).cell 9 rfl)) (P7.pure (L := L7 X Y v rr) 63 109 H.inv rfl)
          · cases ho
            refine wpOp_guard 61 false 107 rfl rfl rfl (H.at_ 61 (d := 107) rfl (he ⟨61, .guard⟩ (by simp) rfl)) ?_
            exact op_val (ex_fa46k (.tmp 7) 10 Y (by decide) rfl ((H.base 7 (by rfl)).trans rfl)) (P7.pure (L := L7 X Y v rr) 64 110 H.inv rfl)
          · cases ho
            refine wpOp_guard 61 false 107 rfl rfl rfl (H.at_ 61 (d := 107) rfl (he ⟨61, .guard⟩ (by simp) rfl)) ?_
            exact op_val (ex_ld3 9 (.tmp 110) Y 10 _ (by decide) rfl (H.at_ 64 (d := 110) rfl (he ⟨64, .data⟩ (by simp) rfl)) ((hY4.chg H.inv id).cell 10 rfl)) (P7.pure (L := L7 X Y v rr) 65 111 H.inv rfl)
          · cases ho
            refine wpOp_guard 61 false 107 rfl rfl rfl (H.at_ 61 (d := 107) rfl (he ⟨61, .guard⟩ (by simp) rfl)) ?_
            exact op_val (ex_neqs (.tmp 109) (.tmp 111) _ rfl (H.at_ 63 (d := 109) rfl (he ⟨63, .data⟩ (by simp) rfl)) (H.at_ 65 (d := 111) rfl (he ⟨65, .data⟩ (by simp) rfl))) (P7.pure (L := L7 X Y v rr) 66 112 H.inv rfl)
          · cases ho
            refine wpOp_plain rfl rfl ?_
            exact op_val (ex_pick (.tmp 107) (.tmp 112) false rfl (H.at_ 61 (d := 107) rfl (he ⟨61, .data⟩ (by simp) rfl)) (H.at_ 66 (d := 112) rfl (he ⟨66, .data⟩ (by simp) rfl))) (P7.pure (L := L7 X Y v rr) 67 113 H.inv rfl)
          · cases ho
            refine wpOp_plain rfl rfl ?_
            exact op_val (ex_move (.tmp 113) rfl) (P7.pure (L := L7 X Y v rr) 68 114 H.inv (H.at_ 67 (d := 113) rfl (he ⟨67, .data⟩ (by simp) rfl)))
          · cases ho
            refine wpOp_guard 68 false 114 rfl rfl rfl (H.at_ 68 (d := 114) rfl (he ⟨68, .guard⟩ (by simp) rfl)) ?_
            exact op_val (ex_fa63k (.tmp 6) 10 X (by decide) rfl ((H.base 6 (by rfl)).trans rfl)) (P7.pure (L := L7 X Y v rr) 69 115 H.inv rfl)
          · cases ho
            refine wpOp_guard 68 false 114 rfl rfl rfl (H.at_ 68 (d := 114) rfl (he ⟨68, .guard⟩ (by simp) rfl)) ?_
            exact op_val (ex_ld3 9 (.tmp 115) X 10 _ (by decide) rfl (H.at_ 69 (d := 115) rfl (he ⟨69, .data⟩ (by simp) rfl)) ((hX4.chg H.inv id).cell 10 rfl)) (P7.pure (L := L7 X Y v rr) 70 116 H.inv rfl)
          · cases ho
            refine wpOp_guard 68 false 114 rfl rfl rfl (H.at_ 68 (d := 114) rfl (he ⟨68, .guard⟩ (by simp) rfl)) ?_
            exact op_val (ex_fa46k (.tmp 7) 11 Y (by decide) rfl ((H.base 7 (by rfl)).trans rfl)) (P7.pure (L := L7 X Y v rr) 71 117 H.inv rfl)
          · cases ho
            refine wpOp_guard 68 false 114 rfl rfl rfl (H.at_ 68 (d := 114) rfl (he ⟨68, .guard⟩ (by simp) rfl)) ?_
            exact op_val (ex_ld3 9 (.tmp 117) Y 11 _ (by decide) rfl (H.at_ 71 (d := 117) rfl (he ⟨71, .data⟩ (by simp) rfl)) ((hY4.chg H.inv id).cell 11 rfl)) (P7.pure (L := L7 X Y v rr) 72 118 H.inv rfl)
          · cases ho
            refine wpOp_guard 68 false 114 rfl rfl rfl (H.at_ 68 (d := 114) rfl (he ⟨68, .guard⟩ (by simp) rfl)) ?_
            exact op_val (ex_neqs (.tmp 116) (.tmp 118) _ rfl (H.at_ 70 (d := 116) rfl (he ⟨70, .data⟩ (by simp) rfl)) (H.at_ 72 (d := 118) rfl (he ⟨72, .data⟩ (by simp) rfl))) (P7.pure (L := L7 X Y v rr) 73 119 H.inv rfl)
          · cases ho
            refine wpOp_plain rfl rfl ?_
            exact op_val (ex_pick (.tmp 114) (.tmp 119) false rfl (H.at_ 68 (d := 114) rfl (he ⟨68, .data⟩ (by simp) rfl)) (H.at_ 73 (d := 119) rfl (he ⟨73, .data⟩ (by simp) rfl))) (P7.pure (L := L7 X Y v rr) 74 120 H.inv rfl)
          · cases ho
            refine wpOp_plain rfl rfl ?_
            exact op_val (ex_move (.tmp 120) rfl) (P7.pure (L := L7 X Y v rr) 75 121 H.inv (H.at_ 74 (d := 120) rfl (he ⟨74, .data⟩ (by simp) rfl)))
          · cases ho
            refine wpOp_guard 75 false 121 rfl rfl rfl (H.at_ 75 (d := 121) rfl (he ⟨75, .guard⟩ (by simp) rfl)) ?_
            exact op_val (ex_fa63k (.tmp 6) 14 X (by decide) rfl ((H.base 6 (by rfl)).trans rfl)) (P7.pure (L := L7 X Y v rr) 76 122 H.inv rfl)
          · cases ho
            refine wpOp_guard 75 false 121 rfl rfl rfl (H.at_ 75 (d := 121) rfl (he ⟨75, .guard⟩ (by simp) rfl)) ?_
            exact op_val (ex_ld3 60 (.tmp 122) X 14 _ (by decide) rfl (H.at_ 76 (d := 122) rfl (he ⟨76, .data⟩ (by simp) rfl)) ((hX4.chg H.inv id).cell 14 rfl)) (P7.pure (L := L7 X Y v rr) 77 123 H.inv rfl)
          · cases ho
            refine wpOp_guard 75 false 121 rfl rfl rfl (H.at_ 75 (d := 121) rfl (he ⟨75, .guard⟩ (by simp) rfl)) ?_
            exact op_val (ex_mul8 (.tmp 123) _ rr hr1 rfl (fun _ => rfl) (H.at_ 77 (d := 123) rfl (he ⟨77, .data⟩ (by simp) rfl))) (P7.pure (L := L7 X Y v rr) 78 124 H.inv rfl)
          · cases ho
            refine wpOp_guard 75 false 121 rfl rfl rfl (H.at_ 75 (d := 121) rfl (he ⟨75, .guard⟩ (by simp) rfl)) ?_
            exact op_val (ex_fa46k (.tmp 7) 12 Y (by decide) rfl ((H.base 7 (by rfl)).trans rfl)) (P7.pure (L := L7 X Y v rr) 79 125 H.inv rfl)
          · cases ho
            refine wpOp_guard 75 false 121 rfl rfl rfl (H.at_ 75 (d := 121) rfl (he ⟨75, .guard⟩ (by simp) rfl)) ?_
            exact op_val (ex_ld3 3 (.tmp 125) Y 12 _ (by decide) rfl (H.at_ 79 (d := 125) rfl (he ⟨79, .data⟩ (by simp) rfl)) ((hY4.chg H.inv id).cell 12 rfl)) (P7.pure (L := L7 X Y v rr) 80 126 H.inv rfl)
          · cases ho
            refine wpOp_guard 75 false 121 rfl rfl rfl (H.at_ 75 (d := 121) rfl (he ⟨75, .guard⟩ (by simp) rfl)) ?_
            exact op_val (ex_cvf (.tmp 126) v.rate hrt rfl (H.at_ 80 (d := 126) rfl (he ⟨80, .data⟩ (by simp) rfl))) (P7.pure (L := L7 X Y v rr) 81 127 H.inv rfl)
          · cases ho
            refine wpOp_guard 75 false 121 rfl rfl rfl (H.at_ 75 (d := 121) rfl (he ⟨75, .guard⟩ (by simp) rfl)) ?_
            exact op_val (ex_neqf (.tmp 124) (.tmp 127) _ _ hr2 rfl (H.at_ 78 (d := 124) rfl (he ⟨78, .data⟩ (by simp) rfl)) (H.at_ 81 (d := 127) rfl (he ⟨81, .data⟩ (by simp) rfl))) (P7.pure (L := L7 X Y v rr) 82 128 H.inv rfl)
          · cases ho
            refine wpOp_plain rfl rfl ?_
            exact op_val (ex_pick (.tmp 121) (.tmp 128) false rfl (H.at_ 75 (d := 121) rfl (he ⟨75, .data⟩ (by simp) rfl)) (H.at_ 82 (d := 128) rfl (he ⟨82, .data⟩ (by simp) rfl))) (P7.pure (L := L7 X Y v rr) 83 129 H.inv rfl)
          · cases ho
            refine wpOp_plain rfl rfl ?_
            exact op_val (ex_move (.tmp 129) rfl) (P7.pure (L := L7 X Y v rr) 84 130 H.inv (H.at_ 83 (d := 129) rfl (he ⟨83, .data⟩ (by simp) rfl)))
          · cases ho
            refine wpOp_guard 84 false 130 rfl rfl rfl (H.at_ 84 (d := 130) rfl (he ⟨84, .guard⟩ (by simp) rfl)) ?_
            exact op_val (ex_fa63k (.tmp 6) 11 X (by decide) rfl ((H.base 6 (by rfl)).trans rfl)) (P7.pure (L := L7 X Y v rr) 85 131 H.inv rfl)
          · cases ho
            refine wpOp_guard 84 false 130 rfl rfl rfl (H.at_ 84 (d := 130) rfl (he ⟨84, .guard⟩ (by simp) rfl)) ?_
            exact op_val (ex_ld3 4 (.tmp 131) X 11 _ (by decide) rfl (H.at_ 85 (d := 131) rfl (he ⟨85, .data⟩ (by simp) rfl)) ((hX4.chg H.inv id).cell 11 rfl)) (P7.pure (L := L7 X Y v rr) 86 132 H.inv rfl)
          · cases ho
            refine wpOp_plain rfl rfl ?_
            exact op_val (ex_pick (.tmp 130) (.tmp 132) false rfl (H.at_ 84 (d := 130) rfl (he ⟨84, .data⟩ (by simp) rfl)) (H.at_ 86 (d := 132) rfl (he ⟨86, .data⟩ (by simp) rfl))) (P7.pure (L := L7 X Y v rr) 87 133 H.inv rfl)
        · intro vals listed wx hv hall hJ
          have e133 : vals 133 = .bool false := hv 87 _ 133 rfl rfl
          have HJ := Lib.hid hJ
          clear hv hall hJ
          simp only [fill, DL7, List.foldl_cons, List.foldl_nil, Act.put, List.setIfInBounds_toArray, List.set_cons_zero, List.set_cons_succ]
          go_wp2_with fail
          go_meet
          case rel => exact ⟨e133, HJ.out⟩
      case rest =>
      obtain ⟨rfl, hC5⟩ := hcut
      have hX5 := H4.out.1.chg hC5.out id
      have hY5 := H4.out.2.1.chg hC5.out id
      rename World => w5
      have hB15 : Below w1.heap.size w1 w5 := H4.out.2.2.trans (hC5.out.toBelow H4.out.2.2.size (fun _ h => h.elim))
      have hB05 : Below w.heap.size w w5 := HM.out.2.2.trans (hB15.mono HM.out.2.2.size)
      have hMM5 := HM.out.2.1.below hB15
      obtain ⟨lf, hlf⟩ : ∃ lf, lf = alts.filter v.has := ⟨_, rfl⟩
      have hlf4 : lf.length ≤ 4 := by rw [hlf]; exact Nat.le_trans (List.length_filter_le _ _) hal
      rw [← hlf] at hX5
      have HLF := Lib.hid hlf
      have n0 := hMM5.cell 0 rfl
      have n1 := hMM5.cell 1 rfl
      have n2 := hMM5.cell 2 rfl
      have n3 := hMM5.cell 3 rfl
      have y0 := hY5.cell 0 rfl
      have y1 := hY5.cell 1 rfl
      have y2 := hY5.cell 2 rfl
      have y3 := hY5.cell 3 rfl
      have y4 := hY5.cell 4 rfl
      have y5 := hY5.cell 5 rfl
      have y6 := hY5.cell 6 rfl
      have y7 := hY5.cell 7 rfl
      have y8 := hY5.cell 8 rfl
      have y9 := hY5.cell 9 rfl
      have y10 := hY5.cell 10 rfl
      have y11 := hY5.cell 11 rfl
      have y12 := hY5.cell 12 rfl
      have H5 := Lib.hid (And.intro hX5 (And.intro hB15 hB05))
      clear hX5 hY5 hB15 hB05 hMM5 hC5 hlf
      go_upto_region 10 with (go_at_call 22; refine (of_any ver ind (.slice A0 alts.length c0) (.slice (some ⟨g1, 0, none⟩) vrts.length c1) alts v b w5 (row_below H.out.1 H5.out.2.2) hal ⟨_, _, _, rfl⟩).mono ?_; rintro e w6 ⟨r6, rfl, hr6, hb6⟩)
      clear n0 n1 n2 n3 y0 y1 y2 y3 y4 y5 y6 y7 y8 y9 y10 y11 y12
      rw [← HLF.out] at hr6
      obtain ⟨A6, c6, rfl⟩ := own_shape hr6
      have hX6 := H5.out.1.below hb6
      have x15 := hX6.cell 15 rfl
      have hB16 : Below w1.heap.size w1 w6 := H5.out.2.1.trans (hb6.mono H5.out.2.1.size)
      have hB06 : Below w.heap.size w w6 := HM.out.2.2.trans (hB16.mono HM.out.2.2.size)
      have hrow : w.ownsRow base 67 10 (.slice A3 lf.length c3) lf.length (lf.flatMap aCells) := by
        rw [HLF.out]; exact H.out.2.2.2.2.1 k v _ HV.out.1 HV.out.2.1
      have H6 := Lib.hid (And.intro hX6 (And.intro hB16 (And.intro hB06 (And.intro hr6 hrow))))
      have hlf5 : (lf.length : Int) ≤ 4 := by omega
      clear hX6 hB16 hB06 hr6 hrow hb6
      go_wp2_with fail
      clear x15
      go_loopg [146] lf.length (fun gq i wr => ∃ (q : Nat), q + gq = lf.length ∧ i = .int .i64 q ∧ Hid (Below w6.heap.size w6 wr))
      case atStart => exact ⟨0, by omega, rfl, Below.refl _ _⟩
      case round =>
        obtain ⟨q, hq, rfl, hBq⟩ := hrel
        rename World => w7
        by_cases hlq : q < lf.length
        · have hlq' : (q : Int) < (lf.length : Int) := by omega
          obtain ⟨z, hz⟩ : ∃ z, lf[q]? = some z := ⟨_, List.getElem?_eq_getElem hlq⟩
          obtain ⟨g3, cap3, hgv3, _, _⟩ := World.ownsRow.form H6.out.2.2.2.2 (by omega)
          cases hgv3
          obtain ⟨g6, cap6, hgv6, _, _⟩ := World.ownsRow.form H6.out.2.2.2.1 (by omega)
          cases hgv6
          have hB07 : Below w.heap.size w w7 := H6.out.2.2.1.trans (hBq.out.mono H6.out.2.2.1.size)
          have pc : ∀ (j : Nat) (u : Value), j < 10 → (aCells z)[j]? = some u → w7.cell? ⟨g3, q * 10 + j, none⟩ = some u := fun j u hj hu => own_cell (row_below H6.out.2.2.2.2 hB07) (by rw [flat_get aCells 10 (fun _ => rfl) _ q j _ hz hj]; exact hu)
          have p0 := pc 0 _ (by omega) rfl
          have p1 := pc 1 _ (by omega) rfl
          have p2 := pc 2 _ (by omega) rfl
          have p3 := pc 3 _ (by omega) rfl
          have p4 := pc 4 _ (by omega) rfl
          have p5 := pc 5 _ (by omega) rfl
          have p6 := pc 6 _ (by omega) rfl
          have p7 := pc 7 _ (by omega) rfl
          have p8 := pc 8 _ (by omega) rfl
          have p9 := pc 9 _ (by omega) rfl
          rw [Nat.add_zero] at p0
          clear pc hB07
          go_upto_region 15 with fail
          clear p0 p1 p2 p3 p4 p5 p6 p7 p8 p9
          obtain ⟨w8, hw8⟩ : ∃ w8, w8 = w7.alloc (.cells (aCells z).toArray 67) := ⟨_, rfl⟩
          have hw8' := hw8
          simp only [aCells] at hw8'
          rw [← hw8']
          clear hw8'
          obtain ⟨Z, hZ⟩ : ∃ Z, Z = w7.heap.size := ⟨_, rfl⟩
          rw [← hZ]
          have hZ8 : Box w8 Z 67 (aCells z) := by rw [hw8]; exact Box.new hZ
          have hB8 : Below w6.heap.size w6 w8 := by rw [hw8]; exact hBq.out.alloc hBq.out.size _
          have qc : ∀ (j : Nat) (u : Value), j < 7 → (altCells z)[j]? = some u → w8.cell? ⟨g6, q * 7 + j, none⟩ = some u := fun j u hj hu => own_cell (row_below H6.out.2.2.2.1 hB8) (by rw [flat_get altCells 7 (fun _ => rfl) _ q j _ hz hj]; exact hu)
          have q0 := qc 0 _ (by omega) rfl
          have q1 := qc 1 _ (by omega) rfl
          have q2 := qc 2 _ (by omega) rfl
          have q3 := qc 3 _ (by omega) rfl
          have q4 := qc 4 _ (by omega) rfl
          have q5 := qc 5 _ (by omega) rfl
          have q6 := qc 6 _ (by omega) rfl
          rw [Nat.add_zero] at q0
          have H8 := Lib.hid (And.intro hZ8 hB8)
          clear qc hZ8 hB8 hw8 hZ
          go_upto_region 16 with fail
          clear q0 q1 q2 q3 q4 q5 q6
          obtain ⟨w9, hw9⟩ : ∃ w9, w9 = w8.alloc (.cells (altCells z).toArray 44) := ⟨_, rfl⟩
          have hw9' := hw9
          simp only [altCells] at hw9'
          rw [← hw9']
          clear hw9'
          obtain ⟨U, hU⟩ : ∃ U, U = w8.heap.size := ⟨_, rfl⟩
          rw [← hU]
          have hZ9 : Box w9 Z 67 (aCells z) := by rw [hw9]; exact H8.out.1.alloc _
          have hU9 : Box w9 U 44 (altCells z) := by rw [hw9]; exact Box.new hU
          have hB9 : Hid (Below w6.heap.size w6 w9) := by show Below _ _ _; rw [hw9]; exact H8.out.2.alloc H8.out.2.size _
          have p0 := hZ9.cell 0 rfl
          have p1 := hZ9.cell 1 rfl
          have p2 := hZ9.cell 2 rfl
          have p3 := hZ9.cell 3 rfl
          have p4 := hZ9.cell 4 rfl
          have p5 := hZ9.cell 5 rfl
          have p6 := hZ9.cell 6 rfl
          have q0 := hU9.cell 0 rfl
          have q1 := hU9.cell 1 rfl
          have q2 := hU9.cell 2 rfl
          have q3 := hU9.cell 3 rfl
          have q4 := hU9.cell 4 rfl
          have q5 := hU9.cell 5 rfl
          have q6 := hU9.cell 6 rfl
          clear hZ9 hU9 hw9 hU
          go_wp2_with fail
          go_roundg (lf.length - (q + 1))
          case measure => omega
          case rel => exact ⟨q + 1, by omega, by go_num, hB9.out⟩
        · obtain rfl : q = lf.length := by omega
          have hge : ¬ (lf.length : Int) < (lf.length : Int) := by omega
          go_wp2_with fail
          go_roundg (vrts.length - (k + 1))
          case measure => omega
          case rel => exact ⟨k + 1, by omega, by go_num, H6.out.2.1.trans (hBq.out.mono H6.out.2.1.size)⟩
    · obtain rfl : k = vrts.length := by omega
      have hge : ¬ (vrts.length : Int) < (vrts.length : Int) := by omega
      go_wp2_with fail
      go_ret
      exact ⟨rfl, HM.out.2.2.trans (hB.out.mono HM.out.2.2.size)⟩
end Go.Proofs.YtelkphcbopbhoaaGreatDoor
