/-
  Walks: masterOf.
-/
import Derived.Test.YtelkphcbopbhoaaGreatDoorW11
import Derived.Test.YtelkphcbopbhoaaGreatDoorRP
import Derived.Deep.CutRange
import Derived.Handy
namespace Go.Proofs.YtelkphcbopbhoaaGreatDoor
open Go Go.RowKit

/-- What a slot is good for. -/
inductive PK
  | eq (v : Value) | sl (n : Nat) (cs : Array Value) | pt (cs : Array Value) (k : Nat) | st (p : Bs → Prop) | bl | alt | alt1 | row | vrt | vp | no
def PK.ok (B0 base : Nat) (alts : List Alt) : PK → Value → World → Prop
  | .eq x, v, _ => v = x
  | .sl n cs, v, w => ∃ g, v = .slice (some ⟨g, 0, none⟩) n n ∧ B0 ≤ g ∧ w.heap[g]? = some (.cells cs 9 (0, 0))
  | .pt cs k, v, w => ∃ g, v = .pointer (some ⟨g, k, none⟩) ∧ B0 ≤ g ∧ w.heap[g]? = some (.cells cs 9 (0, 0))
  | .st p, v, _ => ∃ t, p t ∧ v = .string (S t)
  | .bl, v, _ => ∃ b, v = .bool b
  | .alt, v, _ => ∃ x : Alt, x.Good ∧ v = altVal x
  | .alt1, v, w => ∃ g, ∃ x : Alt, x.Good ∧ v = .slice (some ⟨g, 0, none⟩) 1 1 ∧ B0 ≤ g ∧ w.heap[g]? = some (.cells (altCells x).toArray 44 (0, 0))
  | .row, v, w => ∃ x : Alt, x.Good ∧ ARow w base v (alts ++ [x])
  | .vrt, v, _ => ∃ x : Vrt, x.Good ∧ v = vrtVal x
  | .vp, v, w => ∃ g, ∃ l : List Value, v = .pointer (some ⟨g, 0, none⟩) ∧ B0 ≤ g ∧ l.length = 13 ∧ Box w g 46 l
  | .no, _, _ => True
/-- What is new stays. -/
def Ext (B0 : Nat) (w w' : World) : Prop := w.heap.size ≤ w'.heap.size ∧ ∀ i, B0 ≤ i → i < w.heap.size → w'.heap[i]? = w.heap[i]?
theorem heap_lt {w : World} {g : Nat} {o : Obj} (h : w.heap[g]? = some o) : g < w.heap.size := (Array.getElem?_eq_some_iff.1 h).1
theorem PK.stable {B0 base : Nat} {alts : List Alt} {w w' : World} (hE : Ext B0 w w') (hR : ∀ v l, ARow w base v l → ARow w' base v l) : ∀ (p : PK) (v : Value), p.ok B0 base alts v w → p.ok B0 base alts v w'
  | .eq _, _, h => h
  | .sl _ _, _, ⟨g, h1, h2, h3⟩ => ⟨g, h1, h2, by rw [hE.2 g h2 (heap_lt h3)]; exact h3⟩
  | .pt _ _, _, ⟨g, h1, h2, h3⟩ => ⟨g, h1, h2, by rw [hE.2 g h2 (heap_lt h3)]; exact h3⟩
  | .st _, _, h => h
  | .bl, _, h => h
  | .alt, _, h => h
  | .alt1, _, ⟨g, x, h0, h1, h2, h3⟩ => ⟨g, x, h0, h1, h2, by rw [hE.2 g h2 (heap_lt h3)]; exact h3⟩
  | .row, _, ⟨x, h1, h2⟩ => ⟨x, h1, hR _ _ h2⟩
  | .vrt, _, h => h
  | .vp, _, ⟨g, l, h1, h2, h3, h4⟩ => ⟨g, l, h1, h2, h3, by unfold Box at h4 ⊢; rw [hE.2 g h2 (heap_lt h4)]; exact h4⟩
  | .no, _, h => h
theorem PK.stable' {B0 base : Nat} {alts : List Alt} {w w' : World} (hE : Ext B0 w w') : ∀ (p : PK) (v : Value), p ≠ .row → p.ok B0 base alts v w → p.ok B0 base alts v w'
  | .eq _, _, _, h => h
  | .sl _ _, _, _, ⟨g, h1, h2, h3⟩ => ⟨g, h1, h2, by rw [hE.2 g h2 (heap_lt h3)]; exact h3⟩
  | .pt _ _, _, _, ⟨g, h1, h2, h3⟩ => ⟨g, h1, h2, by rw [hE.2 g h2 (heap_lt h3)]; exact h3⟩
  | .st _, _, _, h => h
  | .bl, _, _, h => h
  | .alt, _, _, h => h
  | .alt1, _, _, ⟨g, x, h0, h1, h2, h3⟩ => ⟨g, x, h0, h1, h2, by rw [hE.2 g h2 (heap_lt h3)]; exact h3⟩
  | .row, _, h, _ => absurd rfl h
  | .vrt, _, _, h => h
  | .vp, _, _, ⟨g, l, h1, h2, h3, h4⟩ => ⟨g, l, h1, h2, h3, by unfold Box at h4 ⊢; rw [hE.2 g h2 (heap_lt h4)]; exact h4⟩
  | .no, _, _, h => h
theorem Ext.refl (B0 : Nat) (w : World) : Ext B0 w w := ⟨Nat.le_refl _, fun _ _ _ => rfl⟩
theorem Ext.alloc (B0 : Nat) (w : World) (o : Obj) : Ext B0 w (w.alloc o) := ⟨by simp, fun i _ hi => ((Below.refl w.heap.size w).alloc (Nat.le_refl _) o).block i hi⟩
theorem Ext.grown {B0 : Nat} {w w' : World} {row : Option Nat} (h : w.grownBy w' row) (hr : ∀ i, row = some i → i < B0) : Ext B0 w w' :=
  ⟨h.size, fun i hb hi => h.block i hi (fun e => by have := hr i e.symm; omega)⟩
theorem Ext.setCell {B0 : Nat} (w : World) (a : Addr) (v : Value) (h : a.block < B0) : Ext B0 w (w.setCell a v) := ⟨by simp, fun i hb _ => heap_setCell_other w a i v (by omega)⟩

/-- The world in the middle of a rendition's making. -/
def JJ (W0 : World) (mb base : Nat) (V : Value) (alts : List Alt) (c0 c1 c3 : Value) (b41 b43 : Bool) (w : World) : Prop :=
  Chg (fun i => i = mb ∨ V.ownBlock = some i) W0 w ∧ (b41 = false → ARow w base V alts) ∧ (b43 = false → Box w mb 27 [c0, c1, V, c3]) ∧
  (b43 = true → ∃ v, ∃ x : Alt, x.Good ∧ ARow w base v (alts ++ [x]) ∧ Box w mb 27 [c0, c1, v, c3])
theorem JJ.alloc {W0 : World} {mb base : Nat} {V : Value} {alts : List Alt} {c0 c1 c3 : Value} {b41 b43 : Bool} {w : World} (h : JJ W0 mb base V alts c0 c1 c3 b41 b43 w) (o : Obj) : JJ W0 mb base V alts c0 c1 c3 b41 b43 (w.alloc o) :=
  ⟨h.1.alloc o, fun e => (h.2.1 e).alloc o, fun e => (h.2.2.1 e).alloc o, fun e => by obtain ⟨v, x, h1, h2, h3⟩ := h.2.2.2 e; exact ⟨v, x, h1, h2.alloc o, h3.alloc o⟩⟩

def tri (a b c : Bs) : Array Value := #[.string (S a), .string (S b), .string (S c)]
def duo (a b : Bs) : Array Value := #[.string (S a), .string (S b)]
theorem tri_get (a b c : Bs) (k : Nat) (hk : k < 3) : ∃ t, (t = a ∨ t = b ∨ t = c) ∧ (tri a b c)[k]? = some (.string (S t)) := by
  have : k = 0 ∨ k = 1 ∨ k = 2 := by omega
  rcases this with rfl | rfl | rfl
  · exact ⟨a, .inl rfl, rfl⟩
  · exact ⟨b, .inr (.inl rfl), rfl⟩
  · exact ⟨c, .inr (.inr rfl), rfl⟩
theorem duo_get (a b : Bs) (k : Nat) (hk : k < 2) : ∃ t, (t = a ∨ t = b) ∧ (duo a b)[k]? = some (.string (S t)) := by
  have : k = 0 ∨ k = 1 := by omega
  rcases this with rfl | rfl
  · exact ⟨a, .inl rfl, rfl⟩
  · exact ⟨b, .inr rfl, rfl⟩
theorem cell_of {w : World} {g : Nat} {cs : Array Value} {t : TypeId} (h : w.heap[g]? = some (.cells cs t (0, 0))) (k : Nat) {v : Value} (hv : cs[k]? = some v) : w.cell? ⟨g, k, none⟩ = some v := by
  simp [World.cell?, h, hv]

/-- What each operation of the region leaves. -/
def P8 (mb : Nat) (V : Value) (h k : Nat) : List PK :=
  [.eq (.pointer (some ⟨mb, 2, none⟩)),
   .eq V,
   .sl 3 (tri kAUDIO kVIDEO kSUBS),
   .eq (.int .u32 h),
   .eq (.int .u32 ((h % 3 : Nat) : Int)),
   .pt (tri kAUDIO kVIDEO kSUBS) (h % 3),
   .st (fun t => t = kAUDIO ∨ t = kVIDEO ∨ t = kSUBS),
   .sl 2 (duo vg vh),
   .eq (.int .u32 h),
   .eq (.int .u32 ((h / 2 ^ 2 : Nat) : Int)),
   .eq (.int .u32 ((h / 2 ^ 2 % 2 : Nat) : Int)),
   .pt (duo vg vh) (h / 2 ^ 2 % 2),
   .st (fun t => t = vg ∨ t = vh),
   .eq (.int .i64 k),
   .eq (.int .u64 k),
   .eq (.string (S (Lib.decDigits k))),
   .eq (.string (S (110 :: Lib.decDigits k))),
   .eq (.int .u32 h),
   .eq (.int .u32 ((h / 2 ^ 3 : Nat) : Int)),
   .eq (.int .u32 ((h / 2 ^ 3 % 2 : Nat) : Int)),
   .bl,
   .sl 3 (tri [] vYES vNO),
   .eq (.int .u32 h),
   .eq (.int .u32 ((h / 2 ^ 4 : Nat) : Int)),
   .eq (.int .u32 ((h / 2 ^ 4 % 3 : Nat) : Int)),
   .pt (tri [] vYES vNO) (h / 2 ^ 4 % 3),
   .st (fun t => t = [] ∨ t = vYES ∨ t = vNO),
   .sl 3 (tri [] ven vde),
   .eq (.int .u32 h),
   .eq (.int .u32 ((h / 2 ^ 6 : Nat) : Int)),
   .eq (.int .u32 ((h / 2 ^ 6 % 3 : Nat) : Int)),
   .pt (tri [] ven vde) (h / 2 ^ 6 % 3),
   .st (fun t => t = [] ∨ t = ven ∨ t = vde),
   .sl 3 (tri [] vab vcd),
   .eq (.int .u32 h),
   .eq (.int .u32 ((h / 2 ^ 8 : Nat) : Int)),
   .eq (.int .u32 ((h / 2 ^ 8 % 3 : Nat) : Int)),
   .pt (tri [] vab vcd) (h / 2 ^ 8 % 3),
   .st (fun t => t = [] ∨ t = vab ∨ t = vcd),
   .alt,
   .alt1,
   .row,
   .eq (.pointer (some ⟨mb, 2, none⟩)),
   .no]
theorem not_row8 {mb : Nat} {V : Value} {h k j : Nat} (hj : j ≠ 41) : ((P8 mb V h k)[j]?.getD .no) ≠ .row := by
  rcases Nat.lt_or_ge j 44 with hlt | hge
  · rcases (by omega : j = 0 ∨ j = 1 ∨ j = 2 ∨ j = 3 ∨ j = 4 ∨ j = 5 ∨ j = 6 ∨ j = 7 ∨ j = 8 ∨ j = 9 ∨ j = 10 ∨ j = 11 ∨ j = 12 ∨ j = 13 ∨ j = 14 ∨ j = 15 ∨ j = 16 ∨ j = 17 ∨ j = 18 ∨ j = 19 ∨ j = 20 ∨ j = 21 ∨ j = 22 ∨ j = 23 ∨ j = 24 ∨ j = 25 ∨ j = 26 ∨ j = 27 ∨ j = 28 ∨ j = 29 ∨ j = 30 ∨ j = 31 ∨ j = 32 ∨ j = 33 ∨ j = 34 ∨ j = 35 ∨ j = 36 ∨ j = 37 ∨ j = 38 ∨ j = 39 ∨ j = 40 ∨ j = 41 ∨ j = 42 ∨ j = 43) with rfl | rfl | rfl | rfl | rfl | rfl | rfl | rfl | rfl | rfl | rfl | rfl | rfl | rfl | rfl | rfl | rfl | rfl | rfl | rfl | rfl | rfl | rfl | rfl | rfl | rfl | rfl | rfl | rfl | rfl | rfl | rfl | rfl | rfl | rfl | rfl | rfl | rfl | rfl | rfl | rfl | rfl | rfl | rfl
    all_goals first | exact absurd rfl hj | (intro e; cases e)
  · rw [List.getElem?_eq_none (by simp [P8]; omega)]
    intro e; cases e
theorem row_set {w : World} {base b k : Nat} {v u : Value} {l : List Alt} (h : ARow w base v l) (hb : b < base) : ARow (w.setCell ⟨b, k, none⟩ u) base v l :=
  World.ownsRow.kept h (row := some b) ⟨rfl, rfl, rfl, by simp, fun i _ hi => heap_setCell_other w ⟨b, k, none⟩ i u (fun e => hi (by rw [e]))⟩ (by
    right
    intro e
    have := (World.ownsRow.lt h _ e).1
    omega)
theorem altCells_one (x : Alt) : ∀ u ∈ altCells x, u.oneCell' = true := by
  intro u hu
  simp only [altCells, List.mem_cons, List.not_mem_nil, or_false] at hu
  rcases hu with rfl | rfl | rfl | rfl | rfl | rfl | rfl <;> rfl
def altZero : Value := .agg #[.string ⟨#[]⟩, .string ⟨#[]⟩, .string ⟨#[]⟩, .bool false, .string ⟨#[]⟩, .string ⟨#[]⟩, .string ⟨#[]⟩]
theorem Tryz.info44 : (Tryz.prog.info? 44).map (fun i => (i.zero, i.size, i.bytes)) = some (some altZero, 7, 104) := by kernel_rfl
theorem ARow.alloc {w : World} {base : Nat} {v : Value} {l : List Alt} (h : ARow w base v l) (o : Obj) : ARow (w.alloc o) base v l := World.ownsRow.alloc h o

def DL14 : List (Option Tmp) := [some 87, some 88, some 89, some 90, some 91, some 92, some 93, some 94, some 95, some 96, some 97, some 98, some 99, some 100, some 101, some 102, some 103, some 104, some 105, some 106, some 107, some 108, some 109, some 110, some 111, some 112, some 113, some 114, some 115, some 116, some 117, some 118, some 119, some 120, some 121, some 122, some 12, none]
/-- What each operation of the second region leaves. -/
def P14 (h : Nat) : List PK :=
  [.eq (.int .u32 h),
   .st (fun t => ∃ r : Bs, t = 117 :: (r ++ [46, 116, 115]) ∧ r.length ≤ 14 ∧ ∀ c ∈ r, signB c = true),
   .eq (.int .u32 h),
   .eq (.int .u32 ((h / 2 ^ 9 : Nat) : Int)),
   .eq (.int .u32 h),
   .eq (.func (.func 9) #[] #[]),
   .eq (.int .u32 h),
   .eq (.int .u32 ((h / 2 ^ 3 : Nat) : Int)),
   .st (fun t => t = [] ∨ t = vg ∨ t = vh),
   .eq (.func (.func 9) #[] #[]),
   .eq (.int .u32 h),
   .eq (.int .u32 ((h / 2 ^ 5 : Nat) : Int)),
   .st (fun t => t = [] ∨ t = vg ∨ t = vh),
   .eq (.func (.func 9) #[] #[]),
   .eq (.int .u32 h),
   .eq (.int .u32 ((h / 2 ^ 7 : Nat) : Int)),
   .st (fun t => t = [] ∨ t = vg ∨ t = vh),
   .sl 3 (tri [] vcc vNONE),
   .eq (.int .u32 h),
   .eq (.int .u32 ((h / 2 ^ 10 : Nat) : Int)),
   .eq (.int .u32 ((h / 2 ^ 10 % 3 : Nat) : Int)),
   .pt (tri [] vcc vNONE) (h / 2 ^ 10 % 3),
   .st (fun t => t = [] ∨ t = vcc ∨ t = vNONE),
   .sl 3 (tri [] vx vabc),
   .eq (.int .u32 h),
   .eq (.int .u32 ((h / 2 ^ 11 : Nat) : Int)),
   .eq (.int .u32 ((h / 2 ^ 11 % 3 : Nat) : Int)),
   .pt (tri [] vx vabc) (h / 2 ^ 11 % 3),
   .st (fun t => t = [] ∨ t = vx ∨ t = vabc),
   .sl 3 (tri [] vc1 vc2),
   .eq (.int .u32 h),
   .eq (.int .u32 ((h / 2 ^ 13 : Nat) : Int)),
   .eq (.int .u32 ((h / 2 ^ 13 % 3 : Nat) : Int)),
   .pt (tri [] vc1 vc2) (h / 2 ^ 13 % 3),
   .st (fun t => t = [] ∨ t = vc1 ∨ t = vc2),
   .vrt,
   .vp,
   .no] 
theorem not_row14 {h : Nat} (j : Nat) : ((P14 h)[j]?.getD .no) ≠ .row ∧ ((P14 h)[j]?.getD .no) ≠ .alt1 := by
  rcases Nat.lt_or_ge j 38 with hlt | hge
  · rcases (by omega : j = 0 ∨ j = 1 ∨ j = 2 ∨ j = 3 ∨ j = 4 ∨ j = 5 ∨ j = 6 ∨ j = 7 ∨ j = 8 ∨ j = 9 ∨ j = 10 ∨ j = 11 ∨ j = 12 ∨ j = 13 ∨ j = 14 ∨ j = 15 ∨ j = 16 ∨ j = 17 ∨ j = 18 ∨ j = 19 ∨ j = 20 ∨ j = 21 ∨ j = 22 ∨ j = 23 ∨ j = 24 ∨ j = 25 ∨ j = 26 ∨ j = 27 ∨ j = 28 ∨ j = 29 ∨ j = 30 ∨ j = 31 ∨ j = 32 ∨ j = 33 ∨ j = 34 ∨ j = 35 ∨ j = 36 ∨ j = 37) with rfl | rfl | rfl | rfl | rfl | rfl | rfl | rfl | rfl | rfl | rfl | rfl | rfl | rfl | rfl | rfl | rfl | rfl | rfl | rfl | rfl | rfl | rfl | rfl | rfl | rfl | rfl | rfl | rfl | rfl | rfl | rfl | rfl | rfl | rfl | rfl | rfl | rfl
    all_goals exact ⟨(by intro e; cases e), (by intro e; cases e)⟩
  · rw [List.getElem?_eq_none (by simp [P14]; omega)]
    exact ⟨(by intro e; cases e), (by intro e; cases e)⟩
theorem other_block {w w' : World} {g q : Nat} {l : List Value} {cs : Array Value} (hch : Chg (fun i => i = g) w w') (hb : Box w g 46 l) (h3 : w.heap[q]? = some (.cells cs 9 (0, 0))) : w'.heap[q]? = some (.cells cs 9 (0, 0)) := by
  rw [hch.block q (heap_lt h3) (fun e => by
    subst e
    unfold Box at hb
    rw [hb] at h3
    injection h3 with h3
    injection h3 with _ h3
    cases h3)]
  exact h3
theorem PK.store {B0 base : Nat} {alts : List Alt} {w w' : World} (g : Nat) (l l' : List Value) (hch : Chg (fun i => i = g) w w') (hb : Box w g 46 l) (hb' : Box w' g 46 l') (hl : l'.length = 13) : ∀ (p : PK) (v : Value), (p ≠ .row ∧ p ≠ .alt1) → p.ok B0 base alts v w → p.ok B0 base alts v w'
  | .eq _, _, _, h => h
  | .sl _ _, _, _, ⟨q, h1, h2, h3⟩ => ⟨q, h1, h2, other_block hch hb h3⟩
  | .pt _ _, _, _, ⟨q, h1, h2, h3⟩ => ⟨q, h1, h2, other_block hch hb h3⟩
  | .st _, _, _, h => h
  | .bl, _, _, h => h
  | .alt, _, _, h => h
  | .alt1, _, h, _ => absurd rfl h.2
  | .row, _, h, _ => absurd rfl h.1
  | .vrt, _, _, h => h
  | .vp, _, _, ⟨q, m, h1, h2, h3, h4⟩ => by
    by_cases e : q = g
    · subst e; exact ⟨q, l', h1, h2, hl, hb'⟩
    · exact ⟨q, m, h1, h2, h3, h4.chg hch e⟩
  | .no, _, _, h => h
/-- The world in the middle of a variant's making. -/
def J14 (W0 : World) (b37 : Bool) (a : Act) (w : World) : Prop :=
  Chg (fun _ => False) W0 w ∧ (b37 = true → ∃ g, ∃ x : Vrt, a.eval (.tmp 12) = .pointer (some ⟨g, 0, none⟩) ∧ x.Good ∧ W0.heap.size ≤ g ∧ Box w g 46 (vrtCells x))
theorem below14 {W0 : World} {alts : List Alt} {B0 base h : Nat} {a : Act} {listed : Array Bool} {w w' : World} (i d : Nat) (h37 : i ≠ 37) (h12 : d ≠ 12)
    (hJ : J14 W0 (listed.getD 37 false) a w) (hb : Below w.heap.size w w') {v : Value} (hp : ((P14 h)[i]?.getD .no).ok B0 base alts v w') :
    ∃ v', a.put (some d) v = a.put (some d) v' ∧ ((P14 h)[i]?.getD .no).ok B0 base alts v' w' ∧ (∀ j u, listed.getD j false = true → ((P14 h)[j]?.getD .no).ok B0 base alts u w → ((P14 h)[j]?.getD .no).ok B0 base alts u w') ∧
      J14 W0 ((listed.setIfInBounds i true).getD 37 false) (a.put (some d) v') w' := by
  refine ⟨v, rfl, hp, fun j u _ hu => PK.stable ⟨hb.size, fun i _ hi => hb.block i hi⟩ (fun _ _ h => row_below h hb) _ u hu, hJ.1.below hb, fun e => ?_⟩
  rw [getD_set_other h37] at e
  obtain ⟨g, x, h1, h2, h3, h4⟩ := hJ.2 e
  exact ⟨g, x, (getD_put_other (by simpa using h12)).trans h1, h2, h3, h4.below hb⟩
theorem pure14 {W0 : World} {alts : List Alt} {B0 base h : Nat} {a : Act} {listed : Array Bool} {w : World} (i d : Nat) (h37 : i ≠ 37) (h12 : d ≠ 12)
    (hJ : J14 W0 (listed.getD 37 false) a w) {v : Value} (hp : ((P14 h)[i]?.getD .no).ok B0 base alts v w) :
    ∃ v', a.put (some d) v = a.put (some d) v' ∧ ((P14 h)[i]?.getD .no).ok B0 base alts v' w ∧ (∀ j u, listed.getD j false = true → ((P14 h)[j]?.getD .no).ok B0 base alts u w → ((P14 h)[j]?.getD .no).ok B0 base alts u w) ∧
      J14 W0 ((listed.setIfInBounds i true).getD 37 false) (a.put (some d) v') w := below14 i d h37 h12 hJ (Below.refl _ _) hp
theorem box_grown {w w' : World} {b : Nat} {t : TypeId} {l : List Value} {row : Option Nat} (h : Box w b t l) (hg : w.grownBy w' row) (hr : some b ≠ row) : Box w' b t l := by
  unfold Box at h ⊢
  rw [hg.block b (heap_lt h) hr]
  exact h
theorem own_set {w : World} {base b k n : Nat} {e : TypeId} {size : Nat} {v u : Value} {xs : List Value} (h : w.ownsRow base e size v n xs) (hb : b < base) : (w.setCell ⟨b, k, none⟩ u).ownsRow base e size v n xs :=
  World.ownsRow.kept h (row := some b) ⟨rfl, rfl, rfl, by simp, fun i _ hi => heap_setCell_other w ⟨b, k, none⟩ i u (fun e => hi (by rw [e]))⟩ (by
    right
    intro e
    have := (World.ownsRow.lt h _ e).1
    omega)
theorem own_ne {w : World} {base base' n n' : Nat} {e e' : TypeId} {size size' : Nat} {v v' : Value} {xs xs' : List Value} (h : w.ownsRow base e size v n xs) (h' : w.ownsRow base' e' size' v' n' xs') (he : e ≠ e') : ∀ i, v.ownBlock = some i → v'.ownBlock = some i → False := by
  intro i hi hi'
  rcases h.2 with ⟨rfl, _⟩ | ⟨g, cap, cur, rfl, _, h5, _⟩
  · cases hi
  · rcases h'.2 with ⟨rfl, _⟩ | ⟨g', cap', cur', rfl, _, h5', _⟩
    · cases hi'
    · injection hi with hi
      injection hi' with hi'
      have e1 : g = i := hi
      have e2 : g' = i := hi'
      subst e1
      subst e2
      rw [h5] at h5'
      injection h5' with h5'
      injection h5' with _ h6
      exact he h6
theorem vrtCells_one (x : Vrt) : ∀ u ∈ vrtCells x, u.oneCell' = true := by
  intro u hu
  simp only [vrtCells, List.mem_cons, List.not_mem_nil, or_false] at hu
  rcases hu with rfl | rfl | rfl | rfl | rfl | rfl | rfl | rfl | rfl | rfl | rfl | rfl | rfl <;> rfl
def vrtZero : Value := .agg #[.string ⟨#[]⟩, .int .u32 0, .int .u32 0, .int .u32 0, .string ⟨#[]⟩, .int .u32 0, .int .u32 0, .string ⟨#[]⟩, .string ⟨#[]⟩, .string ⟨#[]⟩, .string ⟨#[]⟩, .string ⟨#[]⟩, .int .i64 0]
theorem Tryz.info46 : (Tryz.prog.info? 46).map (fun i => (i.zero, i.size, i.bytes)) = some (some vrtZero, 13, 144) := by kernel_rfl
theorem VRow.alloc {w : World} {base : Nat} {v : Value} {l : List Vrt} (h : VRow w base v l) (o : Obj) : VRow (w.alloc o) base v l := World.ownsRow.alloc h o

def DL8 : List (Option Tmp) := [some 32, some 33, some 34, some 35, some 36, some 37, some 38, some 39, some 40, some 41, some 42, some 43, some 44, some 45, some 46, some 47, some 48, some 49, some 50, some 51, some 52, some 53, some 54, some 55, some 56, some 57, some 58, some 59, some 60, some 61, some 62, some 63, some 64, some 65, some 66, some 67, some 68, some 69, some 70, some 71, some 72, some 73, some 74, none]
theorem U32s.below {w w1 : World} {a : Option Addr} {n : Nat} (h : U32s w a n) (hb : Below w.heap.size w w1) : U32s w1 a n := by
  rcases h with h | ⟨b, off, h1, h2⟩
  · exact .inl h
  · refine .inr ⟨b, off, h1, fun i hi => ?_⟩
    obtain ⟨z, hz, hc⟩ := h2 i hi
    refine ⟨z, hz, ?_⟩
    rw [World.cell?_of_block (hb.block b (World.block_lt_of_cell? w _ hc))]
    exact hc
theorem bit_bool (h : Nat) : ∃ b : Bool, (bits BinOp.and IntKind.u32 (h : Int) 1 == 1) = b := ⟨_, rfl⟩
theorem JJ.pure8 {W0 : World} {mb base B0 : Nat} {V : Value} {alts : List Alt} {c0 c1 c3 : Value} {h k : Nat} {a : Act} {listed : Array Bool} {w : World} (i : Nat) (h41 : i ≠ 41) (h43 : i ≠ 43)
    (hJ : JJ W0 mb base V alts c0 c1 c3 (listed.getD 41 false) (listed.getD 43 false) w) {v : Value} {dst : Option Tmp} (hp : ((P8 mb V h k)[i]?.getD .no).ok B0 base alts v w) :
    ∃ v', a.put dst v = a.put dst v' ∧ ((P8 mb V h k)[i]?.getD .no).ok B0 base alts v' w ∧ (∀ j u, listed.getD j false = true → ((P8 mb V h k)[j]?.getD .no).ok B0 base alts u w → ((P8 mb V h k)[j]?.getD .no).ok B0 base alts u w) ∧
      JJ W0 mb base V alts c0 c1 c3 ((listed.setIfInBounds i true).getD 41 false) ((listed.setIfInBounds i true).getD 43 false) w :=
  ⟨v, rfl, hp, fun _ _ _ h => h, by rw [getD_set_other h41, getD_set_other h43]; exact hJ⟩
theorem JJ.alloc8 {W0 : World} {mb base B0 : Nat} {V : Value} {alts : List Alt} {c0 c1 c3 : Value} {h k : Nat} {a : Act} {listed : Array Bool} {w : World} (i : Nat) (h41 : i ≠ 41) (h43 : i ≠ 43)
    (hJ : JJ W0 mb base V alts c0 c1 c3 (listed.getD 41 false) (listed.getD 43 false) w) (o : Obj) {v : Value} {dst : Option Tmp} (hp : ((P8 mb V h k)[i]?.getD .no).ok B0 base alts v (w.alloc o)) :
    ∃ v', a.put dst v = a.put dst v' ∧ ((P8 mb V h k)[i]?.getD .no).ok B0 base alts v' (w.alloc o) ∧ (∀ j u, listed.getD j false = true → ((P8 mb V h k)[j]?.getD .no).ok B0 base alts u w → ((P8 mb V h k)[j]?.getD .no).ok B0 base alts u (w.alloc o)) ∧
      JJ W0 mb base V alts c0 c1 c3 ((listed.setIfInBounds i true).getD 41 false) ((listed.setIfInBounds i true).getD 43 false) (w.alloc o) :=
  ⟨v, rfl, hp, fun j u _ h => PK.stable (Ext.alloc _ _ _) (fun _ _ h => h.alloc o) _ u h, by rw [getD_set_other h41, getD_set_other h43]; exact hJ.alloc o⟩

set_option maxHeartbeats 8000000 in
set_option maxRecDepth 100000 in
theorem master_any (A : Option Addr) (n c N : Nat) (w : World) (hn : n ≤ 100) (hN : N < 4294967296) (hu : U32s w A n) :
    Calls Tryz.prog 4 #[.slice A n c, .int .u32 N] w fun e w' => ∃ va vv alts vrts ver ind, e = .returned (.agg (mstCells ver ind va vv).toArray) ∧ ARow w' w.heap.size va alts ∧ VRow w' w.heap.size vv vrts ∧
      ver < 8 ∧ alts.length ≤ 4 ∧ vrts.length ≤ 4 ∧ (∀ a ∈ alts, a.Good) ∧ (∀ v ∈ vrts, v.Good) ∧ Below w.heap.size w w' := by
  have hmf : ∀ (fn : Fn) (first cap : Array Value) (w : World), (Instr.makeFunc fn first cap).run Tryz.prog w = .ok (.func fn first cap) w := fun _ _ _ _ => rfl
  have hN0 : (0 : Int) ≤ (N : Int) := by omega
  have hN1 : (N : Int) < 4294967296 := by omega
  have HU := Lib.hid hu
  clear hu
  obtain ⟨ind, hind⟩ := bit_bool (N / 8)
  have e8 : (N : Int) / 8 = ((N / 8 : Nat) : Int) := by omega
  rw [← e8] at hind
  have HI := Lib.hid hind
  clear hind e8
  obtain ⟨n1, hn1⟩ : ∃ n1, n1 = N / 32 % 5 := ⟨_, rfl⟩
  have hn1' : (N : Int) / 32 % 5 = (n1 : Int) := by omega
  have hn14 : n1 ≤ 4 := by omega
  have HN1 := Lib.hid hn1'
  clear hn1 hn1'
  go_enter Tryz.func4, Tryz.ntmps4
  go_wp2_with fail
  rw [HI.out, HN1.out]
  obtain ⟨w1, hw1⟩ : ∃ w1, w1 = ((w.alloc (Obj.cells #[Value.slice A n c] 22)).alloc (Obj.cells #[Value.int IntKind.i64 0, Value.bool false, Value.slice none 0 0, Value.slice none 0 0] 27)).alloc (Obj.cells #[Value.int IntKind.i64 (N % 8), Value.bool ind, Value.slice none 0 0, Value.slice none 0 0] 27) := ⟨_, rfl⟩
  rw [← hw1]
  have hb1 : Box w1 w.heap.size 22 [Value.slice A n c] := by
    have h0 : Box (w.alloc (Obj.cells #[Value.slice A n c] 22)) w.heap.size 22 [Value.slice A n c] := heap_alloc_new _ _
    rw [hw1]; exact (h0.alloc _).alloc _
  have hb2 : Box w1 (w.heap.size + 1) 27 [Value.int IntKind.i64 0, Value.bool false, Value.slice none 0 0, Value.slice none 0 0] := by
    have h0 : Box ((w.alloc (Obj.cells #[Value.slice A n c] 22)).alloc (Obj.cells #[Value.int IntKind.i64 0, Value.bool false, Value.slice none 0 0, Value.slice none 0 0] 27)) (w.heap.size + 1) 27 [Value.int IntKind.i64 0, Value.bool false, Value.slice none 0 0, Value.slice none 0 0] := Box.new (by simp)
    rw [hw1]; exact h0.alloc _
  have hb3 : Box w1 (w.heap.size + 1 + 1) 27 [Value.int IntKind.i64 (N % 8), Value.bool ind, Value.slice none 0 0, Value.slice none 0 0] := by
    rw [hw1]
    exact Box.new (by simp)
  have hbel : Below w.heap.size w w1 := by rw [hw1]; exact (((Below.refl _ _).alloc (Nat.le_refl _) _).alloc (by simp) _).alloc (by simp; omega) _
  clear hw1
  go_loopg [26] n1 (fun gk a wr => ∃ (k : Nat) (V : Value) (alts : List Alt), k + gk = n1 ∧ a = .int .i64 k ∧ Hid (Below w.heap.size w wr) ∧ Hid (Box wr w.heap.size 22 [Value.slice A n c]) ∧
    Hid (Box wr (w.heap.size + 1) 27 [Value.int IntKind.i64 0, Value.bool false, Value.slice none 0 0, Value.slice none 0 0]) ∧ Hid (Box wr (w.heap.size + 1 + 1) 27 [Value.int IntKind.i64 (N % 8), Value.bool ind, V, Value.slice none 0 0]) ∧
    Hid (ARow wr (w.heap.size + 1 + 1 + 1) V alts) ∧ alts.length = k ∧ Hid (∀ a ∈ alts, a.Good))
  case atStart => exact ⟨0, _, [], by omega, rfl, hbel, hb1, hb2, hb3, World.ownsRow_nil _ _ _ _, rfl, by show ∀ a ∈ [], _; simp⟩
  case round =>
    clear hb1 hb2 hb3 hbel
    obtain ⟨k, V, alts, hk, rfl, hbel, hb1, hb2, hb3, hrow, hal, hgood⟩ := hrel
    by_cases hlt : k < n1
    · have hlt' : (k : Int) < (n1 : Int) := by omega
      have x1 := hb1.out.cell 0 rfl
      have hu2 : Hid (U32s wr A n) := HU.out.below hbel.out
      go_upto_region 8 with (go_at_call 8; refine (at_any _ A n c k _ x1 hn (by omega) hu2.out).mono ?_; rintro e w' ⟨h, hh, rfl, m, rfl⟩)
      clear x1
      obtain ⟨w2, hw2⟩ : ∃ w2, w2 = wr.drewN m := ⟨_, rfl⟩
      rw [← hw2]
      have hrow2 : ARow w2 (w.heap.size + 1 + 1 + 1) V alts := by rw [hw2]; exact hrow.out
      have hbx2 : Box w2 (w.heap.size + 1 + 1) 27 [Value.int IntKind.i64 (N % 8), Value.bool ind, V, Value.slice none 0 0] := by rw [hw2]; exact hb3.out
      have hVlt : ∀ i, V.ownBlock = some i → i < w2.heap.size := fun i hi => (World.ownsRow.lt hrow2 i hi).2
      have hVge : ∀ i, V.ownBlock = some i → w.heap.size + 1 + 1 + 1 ≤ i := fun i hi => (World.ownsRow.lt hrow2 i hi).1
      have hmb : w.heap.size + 1 + 1 < w2.heap.size := hbx2.lt
      generalize hMB : w.heap.size + 1 + 1 = mb at *
      refine wp_region_fill DL8 (by kernel_rfl) (by kernel_rfl) (by kernel_rfl) (fun i v wx => ((P8 mb V h k)[i]?.getD .no).ok w2.heap.size (mb + 1) alts v wx) (fun listed _ wx => JJ w2 mb (mb + 1) V alts (Value.int IntKind.i64 (N % 8)) (Value.bool ind) (Value.slice none 0 0) (listed.getD 41 false) (listed.getD 43 false) wx) ?_ ?_ ?_
      · exact ⟨(Chg.refl _ _).drew, fun _ => hrow2, fun _ => hbx2, fun e => by cases e⟩
      · have hB0 : ∀ {b41 b43 : Bool} {wx : World}, JJ w2 mb (mb + 1) V alts (Value.int IntKind.i64 (N % 8)) (Value.bool ind) (Value.slice none 0 0) b41 b43 wx → w2.heap.size ≤ wx.heap.size := fun h => h.1.size
        have hVmb : V.ownBlock ≠ some mb := fun e => by have := hVge _ e; omega
        have hmbB : mb < w2.heap.size := hmb
        have hmbbase : mb < mb + 1 := by omega
        have hbase : mb + 1 ≤ w2.heap.size := by omega
        intro i o ho listed a wx H hl he
        have hi44 : i < 44 := (Array.getElem?_eq_some_iff.1 ho).1
        rcases (by omega : i = 0 ∨ i = 1 ∨ i = 2 ∨ i = 3 ∨ i = 4 ∨ i = 5 ∨ i = 6 ∨ i = 7 ∨ i = 8 ∨ i = 9 ∨ i = 10 ∨ i = 11 ∨ i = 12 ∨ i = 13 ∨ i = 14 ∨ i = 15 ∨ i = 16 ∨ i = 17 ∨ i = 18 ∨ i = 19 ∨ i = 20 ∨ i = 21 ∨ i = 22 ∨ i = 23 ∨ i = 24 ∨ i = 25 ∨ i = 26 ∨ i = 27 ∨ i = 28 ∨ i = 29 ∨ i = 30 ∨ i = 31 ∨ i = 32 ∨ i = 33 ∨ i = 34 ∨ i = 35 ∨ i = 36 ∨ i = 37 ∨ i = 38 ∨ i = 39 ∨ i = 40 ∨ i = 41 ∨ i = 42 ∨ i = 43) with rfl | rfl | rfl | rfl | rfl | rfl | rfl | rfl | rfl | rfl | rfl | rfl | rfl | rfl | rfl | rfl | rfl | rfl | rfl | rfl | rfl | rfl | rfl | rfl | rfl | rfl | rfl | rfl | rfl | rfl | rfl | rfl | rfl | rfl | rfl | rfl | rfl | rfl | rfl | rfl | rfl | rfl | rfl | rfl
        · cases ho
          refine wpOp_plain rfl rfl ?_
          exact op_val (ex_fieldAddr (.tmp 5) 2 mb (by omega) rfl ((H.base 5 (by rfl)).trans rfl)) (JJ.pure8 0 (by decide) (by decide) H.inv rfl)
        · cases ho
          refine wpOp_plain rfl rfl ?_
          have n43 : listed.getD 43 false = false := by
            cases e43 : listed.getD 43 false with
            | false => rfl
            | true =>
              have e41 := H.closed 43 _ rfl e43 ⟨41, .data⟩ (by simp) rfl
              have e1 := H.closed 41 _ rfl e41 ⟨1, .data⟩ (by simp) rfl; rw [hl] at e1; cases e1
          have hp := H.at_ 0 (d := 32) rfl (he ⟨0, .data⟩ (by simp) rfl)
          exact op_val (ex_load24 (.tmp 32) mb 2 V rfl hp ((H.inv.2.2.1 n43).cell 2 rfl)) (JJ.pure8 1 (by decide) (by decide) H.inv rfl)
        · cases ho
          refine wpOp_plain rfl rfl ?_
          exact op_val (ex_slice3 _ _ _ rfl (fun _ => rfl) ⟨_, rfl⟩ ⟨_, rfl⟩ ⟨_, rfl⟩) (JJ.alloc8 2 (by decide) (by decide) H.inv _ ⟨_, rfl, hB0 H.inv, heap_alloc_new _ _⟩)
        · cases ho
          refine wpOp_plain rfl rfl ?_
          exact op_val (ex_move (.tmp 9) rfl) (JJ.pure8 3 (by decide) (by decide) H.inv ((H.base 9 (by rfl)).trans rfl))
        · cases ho
          refine wpOp_plain rfl rfl ?_
          exact op_val (ex_rem (.tmp 35) 3 (by omega) (by omega) rfl (fun _ => rfl) (H.at_ 3 (d := 35) rfl (he ⟨3, .data⟩ (by simp) rfl))) (JJ.pure8 4 (by decide) (by decide) H.inv rfl)
        · cases ho
          refine wpOp_plain rfl rfl ?_
          obtain ⟨g, e1, e2, e3⟩ := H.at_ 2 (d := 34) rfl (he ⟨2, .data⟩ (by simp) rfl)
          exact op_val (ex_indexAddr (.tmp 34) (.tmp 36) g (h % 3) 3 (Nat.mod_lt _ (by omega)) (by omega) rfl e1 (H.at_ 4 (d := 36) rfl (he ⟨4, .data⟩ (by simp) rfl))) (JJ.pure8 5 (by decide) (by decide) H.inv ⟨g, rfl, e2, e3⟩)
        · cases ho
          refine wpOp_plain rfl rfl ?_
          obtain ⟨g, e1, e2, e3⟩ := H.at_ 5 (d := 37) rfl (he ⟨5, .data⟩ (by simp) rfl)
          obtain ⟨t, ht, hg⟩ := tri_get _ _ _ _ (Nat.mod_lt _ (by omega))
          exact op_val (ex_load9 (.tmp 37) g _ _ rfl e1 (cell_of e3 _ hg)) (JJ.pure8 6 (by decide) (by decide) H.inv ⟨t, ht, rfl⟩)
        · cases ho
          refine wpOp_plain rfl rfl ?_
          exact op_val (ex_slice2 _ _ rfl (fun _ => rfl) ⟨_, rfl⟩ ⟨_, rfl⟩) (JJ.alloc8 7 (by decide) (by decide) H.inv _ ⟨_, rfl, hB0 H.inv, heap_alloc_new _ _⟩)
        · cases ho
          refine wpOp_plain rfl rfl ?_
          exact op_val (ex_move (.tmp 9) rfl) (JJ.pure8 8 (by decide) (by decide) H.inv ((H.base 9 (by rfl)).trans rfl))
        · cases ho
          refine wpOp_plain rfl rfl ?_
          exact op_val (ex_shr (.tmp 40) 2 (by omega) hh rfl (fun _ => rfl) (H.at_ 8 (d := 40) rfl (he ⟨8, .data⟩ (by simp) rfl))) (JJ.pure8 9 (by decide) (by decide) H.inv rfl)
        · cases ho
          refine wpOp_plain rfl rfl ?_
          exact op_val (ex_and (.tmp 41) (by omega) rfl (fun _ => rfl) (H.at_ 9 (d := 41) rfl (he ⟨9, .data⟩ (by simp) rfl))) (JJ.pure8 10 (by decide) (by decide) H.inv rfl)
        · cases ho
          refine wpOp_plain rfl rfl ?_
          obtain ⟨g, e1, e2, e3⟩ := H.at_ 7 (d := 39) rfl (he ⟨7, .data⟩ (by simp) rfl)
          exact op_val (ex_indexAddr (.tmp 39) (.tmp 42) g (h / 2 ^ 2 % 2) 2 (Nat.mod_lt _ (by omega)) (by omega) rfl e1 (H.at_ 10 (d := 42) rfl (he ⟨10, .data⟩ (by simp) rfl))) (JJ.pure8 11 (by decide) (by decide) H.inv ⟨g, rfl, e2, e3⟩)
        · cases ho
          refine wpOp_plain rfl rfl ?_
          obtain ⟨g, e1, e2, e3⟩ := H.at_ 11 (d := 43) rfl (he ⟨11, .data⟩ (by simp) rfl)
          obtain ⟨t, ht, hg⟩ := duo_get _ _ _ (Nat.mod_lt _ (by omega))
          exact op_val (ex_load9 (.tmp 43) g _ _ rfl e1 (cell_of e3 _ hg)) (JJ.pure8 12 (by decide) (by decide) H.inv ⟨t, ht, rfl⟩)
        · cases ho
          refine wpOp_plain rfl rfl ?_
          exact op_val (ex_move (.tmp 8) rfl) (JJ.pure8 13 (by decide) (by decide) H.inv ((H.base 8 (by rfl)).trans rfl))
        · cases ho
          refine wpOp_plain rfl rfl ?_
          exact op_val (ex_conv (.tmp 45) k (by omega) rfl (H.at_ 13 (d := 45) rfl (he ⟨13, .data⟩ (by simp) rfl))) (JJ.pure8 14 (by decide) (by decide) H.inv rfl)
        · cases ho
          refine wpOp_plain rfl rfl ?_
          refine op_call (ex_call10 (.tmp 46) (.int .u64 k) rfl (fun _ => rfl) (H.at_ 14 (d := 46) rfl (he ⟨14, .data⟩ (by simp) rfl))) (dec_any k wx (by omega)) ?_
          rintro e w2 ⟨rfl, rfl⟩
          exact ⟨_, rfl, JJ.pure8 15 (by decide) (by decide) H.inv rfl⟩
        · cases ho
          refine wpOp_plain rfl rfl ?_
          exact op_val (ex_concat [110] (.tmp 47) (Lib.decDigits k) (by have := dec_length_le k 20 (by omega) (by omega); simp; omega) rfl (fun _ => rfl) (H.at_ 15 (d := 47) rfl (he ⟨15, .data⟩ (by simp) rfl))) (JJ.pure8 16 (by decide) (by decide) H.inv rfl)
        · cases ho
          refine wpOp_plain rfl rfl ?_
          exact op_val (ex_move (.tmp 9) rfl) (JJ.pure8 17 (by decide) (by decide) H.inv ((H.base 9 (by rfl)).trans rfl))
        · cases ho
          refine wpOp_plain rfl rfl ?_
          exact op_val (ex_shr (.tmp 49) 3 (by omega) hh rfl (fun _ => rfl) (H.at_ 17 (d := 49) rfl (he ⟨17, .data⟩ (by simp) rfl))) (JJ.pure8 18 (by decide) (by decide) H.inv rfl)
        · cases ho
          refine wpOp_plain rfl rfl ?_
          exact op_val (ex_and (.tmp 50) (by omega) rfl (fun _ => rfl) (H.at_ 18 (d := 50) rfl (he ⟨18, .data⟩ (by simp) rfl))) (JJ.pure8 19 (by decide) (by decide) H.inv rfl)
        · cases ho
          refine wpOp_plain rfl rfl ?_
          exact op_val (ex_eql (.tmp 51) rfl (fun _ => rfl) (H.at_ 19 (d := 51) rfl (he ⟨19, .data⟩ (by simp) rfl))) (JJ.pure8 20 (by decide) (by decide) H.inv ⟨_, rfl⟩)
        · cases ho
          refine wpOp_plain rfl rfl ?_
          exact op_val (ex_slice3 _ _ _ rfl (fun _ => rfl) ⟨_, rfl⟩ ⟨_, rfl⟩ ⟨_, rfl⟩) (JJ.alloc8 21 (by decide) (by decide) H.inv _ ⟨_, rfl, hB0 H.inv, heap_alloc_new _ _⟩)
        · cases ho
          refine wpOp_plain rfl rfl ?_
          exact op_val (ex_move (.tmp 9) rfl) (JJ.pure8 22 (by decide) (by decide) H.inv ((H.base 9 (by rfl)).trans rfl))
        · cases ho
          refine wpOp_plain rfl rfl ?_
          exact op_val (ex_shr (.tmp 54) 4 (by omega) hh rfl (fun _ => rfl) (H.at_ 22 (d := 54) rfl (he ⟨22, .data⟩ (by simp) rfl))) (JJ.pure8 23 (by decide) (by decide) H.inv rfl)
        · cases ho
          refine wpOp_plain rfl rfl ?_
          exact op_val (ex_rem (.tmp 55) 3 (by omega) (by omega) rfl (fun _ => rfl) (H.at_ 23 (d := 55) rfl (he ⟨23, .data⟩ (by simp) rfl))) (JJ.pure8 24 (by decide) (by decide) H.inv rfl)
        · cases ho
          refine wpOp_plain rfl rfl ?_
          obtain ⟨g, e1, e2, e3⟩ := H.at_ 21 (d := 53) rfl (he ⟨21, .data⟩ (by simp) rfl)
          exact op_val (ex_indexAddr (.tmp 53) (.tmp 56) g (h / 2 ^ 4 % 3) 3 (Nat.mod_lt _ (by omega)) (by omega) rfl e1 (H.at_ 24 (d := 56) rfl (he ⟨24, .data⟩ (by simp) rfl))) (JJ.pure8 25 (by decide) (by decide) H.inv ⟨g, rfl, e2, e3⟩)
        · cases ho
          refine wpOp_plain rfl rfl ?_
          obtain ⟨g, e1, e2, e3⟩ := H.at_ 25 (d := 57) rfl (he ⟨25, .data⟩ (by simp) rfl)
          obtain ⟨t, ht, hg⟩ := tri_get _ _ _ _ (Nat.mod_lt _ (by omega))
          exact op_val (ex_load9 (.tmp 57) g _ _ rfl e1 (cell_of e3 _ hg)) (JJ.pure8 26 (by decide) (by decide) H.inv ⟨t, ht, rfl⟩)
        · cases ho
          refine wpOp_plain rfl rfl ?_
          exact op_val (ex_slice3 _ _ _ rfl (fun _ => rfl) ⟨_, rfl⟩ ⟨_, rfl⟩ ⟨_, rfl⟩) (JJ.alloc8 27 (by decide) (by decide) H.inv _ ⟨_, rfl, hB0 H.inv, heap_alloc_new _ _⟩)
        · cases ho
          refine wpOp_plain rfl rfl ?_
          exact op_val (ex_move (.tmp 9) rfl) (JJ.pure8 28 (by decide) (by decide) H.inv ((H.base 9 (by rfl)).trans rfl))
        · cases ho
          refine wpOp_plain rfl rfl ?_
          exact op_val (ex_shr (.tmp 60) 6 (by omega) hh rfl (fun _ => rfl) (H.at_ 28 (d := 60) rfl (he ⟨28, .data⟩ (by simp) rfl))) (JJ.pure8 29 (by decide) (by decide) H.inv rfl)
        · cases ho
          refine wpOp_plain rfl rfl ?_
          exact op_val (ex_rem (.tmp 61) 3 (by omega) (by omega) rfl (fun _ => rfl) (H.at_ 29 (d := 61) rfl (he ⟨29, .data⟩ (by simp) rfl))) (JJ.pure8 30 (by decide) (by decide) H.inv rfl)
        · cases ho
          refine wpOp_plain rfl rfl ?_
          obtain ⟨g, e1, e2, e3⟩ := H.at_ 27 (d := 59) rfl (he ⟨27, .data⟩ (by simp) rfl)
          exact op_val (ex_indexAddr (.tmp 59) (.tmp 62) g (h / 2 ^ 6 % 3) 3 (Nat.mod_lt _ (by omega)) (by omega) rfl e1 (H.at_ 30 (d := 62) rfl (he ⟨30, .data⟩ (by simp) rfl))) (JJ.pure8 31 (by decide) (by decide) H.inv ⟨g, rfl, e2, e3⟩)
        · cases ho
          refine wpOp_plain rfl rfl ?_
          obtain ⟨g, e1, e2, e3⟩ := H.at_ 31 (d := 63) rfl (he ⟨31, .data⟩ (by simp) rfl)
          obtain ⟨t, ht, hg⟩ := tri_get _ _ _ _ (Nat.mod_lt _ (by omega))
          exact op_val (ex_load9 (.tmp 63) g _ _ rfl e1 (cell_of e3 _ hg)) (JJ.pure8 32 (by decide) (by decide) H.inv ⟨t, ht, rfl⟩)
        · cases ho
          refine wpOp_plain rfl rfl ?_
          exact op_val (ex_slice3 _ _ _ rfl (fun _ => rfl) ⟨_, rfl⟩ ⟨_, rfl⟩ ⟨_, rfl⟩) (JJ.alloc8 33 (by decide) (by decide) H.inv _ ⟨_, rfl, hB0 H.inv, heap_alloc_new _ _⟩)
        · cases ho
          refine wpOp_plain rfl rfl ?_
          exact op_val (ex_move (.tmp 9) rfl) (JJ.pure8 34 (by decide) (by decide) H.inv ((H.base 9 (by rfl)).trans rfl))
        · cases ho
          refine wpOp_plain rfl rfl ?_
          exact op_val (ex_shr (.tmp 66) 8 (by omega) hh rfl (fun _ => rfl) (H.at_ 34 (d := 66) rfl (he ⟨34, .data⟩ (by simp) rfl))) (JJ.pure8 35 (by decide) (by decide) H.inv rfl)
        · cases ho
          refine wpOp_plain rfl rfl ?_
          exact op_val (ex_rem (.tmp 67) 3 (by omega) (by omega) rfl (fun _ => rfl) (H.at_ 35 (d := 67) rfl (he ⟨35, .data⟩ (by simp) rfl))) (JJ.pure8 36 (by decide) (by decide) H.inv rfl)
        · cases ho
          refine wpOp_plain rfl rfl ?_
          obtain ⟨g, e1, e2, e3⟩ := H.at_ 33 (d := 65) rfl (he ⟨33, .data⟩ (by simp) rfl)
          exact op_val (ex_indexAddr (.tmp 65) (.tmp 68) g (h / 2 ^ 8 % 3) 3 (Nat.mod_lt _ (by omega)) (by omega) rfl e1 (H.at_ 36 (d := 68) rfl (he ⟨36, .data⟩ (by simp) rfl))) (JJ.pure8 37 (by decide) (by decide) H.inv ⟨g, rfl, e2, e3⟩)
        · cases ho
          refine wpOp_plain rfl rfl ?_
          obtain ⟨g, e1, e2, e3⟩ := H.at_ 37 (d := 69) rfl (he ⟨37, .data⟩ (by simp) rfl)
          obtain ⟨t, ht, hg⟩ := tri_get _ _ _ _ (Nat.mod_lt _ (by omega))
          exact op_val (ex_load9 (.tmp 69) g _ _ rfl e1 (cell_of e3 _ hg)) (JJ.pure8 38 (by decide) (by decide) H.inv ⟨t, ht, rfl⟩)
        · cases ho
          refine wpOp_plain rfl rfl ?_
          obtain ⟨t0, p0, e0⟩ := H.at_ 6 (d := 38) rfl (he ⟨6, .data⟩ (by simp) rfl)
          obtain ⟨t1, p1, e1⟩ := H.at_ 12 (d := 44) rfl (he ⟨12, .data⟩ (by simp) rfl)
          have e2 := H.at_ 16 (d := 48) rfl (he ⟨16, .data⟩ (by simp) rfl)
          obtain ⟨b3, e3⟩ := H.at_ 20 (d := 52) rfl (he ⟨20, .data⟩ (by simp) rfl)
          obtain ⟨t4, p4, e4⟩ := H.at_ 26 (d := 58) rfl (he ⟨26, .data⟩ (by simp) rfl)
          obtain ⟨t5, p5, e5⟩ := H.at_ 32 (d := 64) rfl (he ⟨32, .data⟩ (by simp) rfl)
          obtain ⟨t6, p6, e6⟩ := H.at_ 38 (d := 70) rfl (he ⟨38, .data⟩ (by simp) rfl)
          exact op_val (ex_build44 (.tmp 38) (.tmp 44) (.tmp 48) (.tmp 52) (.tmp 58) (.tmp 64) (.tmp 70) ⟨t0, t1, 110 :: Lib.decDigits k, b3, t4, t5, t6⟩ rfl e0 e1 e2 e3 e4 e5 e6) (JJ.pure8 39 (by decide) (by decide) H.inv ⟨_, ⟨p0, p1, ⟨k, by omega, rfl⟩, p4, p5, p6⟩, rfl⟩)
        · cases ho
          refine wpOp_plain rfl rfl ?_
          obtain ⟨x, hx, e1⟩ := H.at_ 39 (d := 71) rfl (he ⟨39, .data⟩ (by simp) rfl)
          exact op_val (ex_slice24 (.tmp 71) x rfl e1) (JJ.alloc8 40 (by decide) (by decide) H.inv _ ⟨_, x, hx, rfl, hB0 H.inv, heap_alloc_new _ _⟩)
        · cases ho
          refine wpOp_plain rfl rfl ?_
          have n43 : listed.getD 43 false = false := by
            cases e43 : listed.getD 43 false with
            | false => rfl
            | true =>
              have e41 := H.closed 43 _ rfl e43 ⟨41, .data⟩ (by simp) rfl
              rw [hl] at e41; cases e41
          have hV := H.at_ 1 (d := 33) rfl (he ⟨1, .data⟩ (by simp) rfl)
          obtain ⟨g, x, hx, e1, e2, e3⟩ := H.at_ 40 (d := 72) rfl (he ⟨40, .data⟩ (by simp) rfl)
          have hrow := H.inv.2.1 hl
          obtain ⟨i0, hi0, hz, hz1, hz2⟩ := info_parts Tryz.info44
          refine wp_append_lies wx (.tmp 33) (.tmp 72) 24 rfl (mb + 1) 44 i0 altZero 7 104 Tryz.underlying24 hi0 hz hz1 hz2 rfl (by decide) V alts.length (alts.flatMap altCells) hV hrow ⟨g, 0, none⟩ 1 1 (altCells x) e1 rfl (World.news_of_block e3) (altCells_one x) (by omega) (by unfold maxLen; omega) (by omega) (Nat.le_trans hbase H.inv.1.size) _ rfl ?_
          intro g2 cap w' h1 h2 _ _
          have hr2 : ARow w' (mb + 1) (.slice (some ⟨g2, 0, none⟩) (alts.length + 1) cap) (alts ++ [x]) := by
            unfold ARow
            rw [List.length_append, List.flatMap_append]
            simpa using h1
          refine ⟨_, rfl, ⟨x, hx, hr2⟩, ?_, ?_⟩
          · intro j u hlj hu
            refine PK.stable' (Ext.grown h2 hVlt) _ u ?_ hu
            exact not_row8 (fun e => by subst e; rw [hl] at hlj; cases hlj)
          · refine ⟨H.inv.1.grown h2 (fun i hi _ => .inr hi), fun e => ?_, fun e => ?_, fun e => ?_⟩
            · rw [getD_set_same (by rw [H.size]; decide)] at e; cases e
            · rw [getD_set_other (by decide)] at e
              have hb := H.inv.2.2.1 n43
              unfold Box at hb ⊢
              rw [h2.block mb (heap_lt hb) (fun e => hVmb e.symm)]
              exact hb
            · rw [getD_set_other (by decide), n43] at e; cases e
        · cases ho
          refine wpOp_plain rfl rfl ?_
          exact op_val (ex_fieldAddr (.tmp 5) 2 mb (by omega) rfl ((H.base 5 (by rfl)).trans rfl)) (JJ.pure8 42 (by decide) (by decide) H.inv rfl)
        · cases ho
          refine wpOp_plain rfl rfl ?_
          obtain ⟨x, hx, hrow⟩ := H.at_ 41 (d := 73) rfl (he ⟨41, .data⟩ (by simp) rfl)
          have hp := H.at_ 42 (d := 74) rfl (he ⟨42, .data⟩ (by simp) rfl)
          obtain ⟨A, c, hsh⟩ := own_shape hrow
          have hbx := H.inv.2.2.1 hl
          refine op_skip (ex_store24 (.tmp 74) (.tmp 73) mb 2 _ _ rfl hp rfl ⟨_, _, _, hsh⟩ (hbx.cell 2 rfl) (hbx.frozen 2)) ?_
          refine ⟨_, rfl, trivial, ?_, ?_⟩
          · intro j u hlj hu
            exact PK.stable (Ext.setCell wx _ _ hmbB) (fun v l h => row_set h (hmbbase)) _ u hu
          · refine ⟨H.inv.1.setCell _ _ (fun _ => .inl rfl), fun e => ?_, fun e => ?_, fun e => ?_⟩
            · rw [getD_set_other (by decide)] at e
              exact row_set (H.inv.2.1 e) hmbbase
            · rw [getD_set_same (by rw [H.size]; decide)] at e; cases e
            · exact ⟨_, x, hx, row_set hrow hmbbase, hbx.set 2 _⟩
      · intro vals listed wx hv hall hJ
        have h43 := hall 43 (by decide)
        rw [h43] at hJ
        obtain ⟨V2, x, hx, hr2, hbx3⟩ := hJ.2.2.2 rfl
        have hchg := hJ.1
        clear hv hall hJ h43
        simp only [fill, DL8, List.foldl_cons, List.foldl_nil, Act.put, List.setIfInBounds_toArray, List.set_cons_zero, List.set_cons_succ]
        subst hMB
        have B2 : Below w.heap.size w w2 := by rw [hw2]; exact below_drewN' hbel.out _
        have R1 : Below w.heap.size w wx := B2.trans (hchg.toBelow B2.size (fun i hi => by rcases hi with rfl | hi; omega; have := hVge i hi; omega))
        have hne : ∀ q, q < w.heap.size + 1 + 1 → ¬ (q = w.heap.size + 1 + 1 ∨ V.ownBlock = some q) := fun q hq hi => by rcases hi with hi | hi; omega; have := hVge q hi; omega
        have R2 : Box wx w.heap.size 22 [Value.slice A n c] := Box.chg (by rw [hw2]; exact hb1.out) hchg (hne _ (by omega))
        have R3 : Box wx (w.heap.size + 1) 27 [Value.int IntKind.i64 0, Value.bool false, Value.slice none 0 0, Value.slice none 0 0] := Box.chg (by rw [hw2]; exact hb2.out) hchg (hne _ (by omega))
        have R4 := Lib.hid hr2
        have R5 := Lib.hid hbx3
        have R6 : Hid (∀ a ∈ alts ++ [x], a.Good) := by
          show ∀ a ∈ alts ++ [x], a.Good
          intro a ha
          rcases List.mem_append.1 ha with ha | ha
          · exact hgood.out a ha
          · rw [List.mem_singleton.1 ha]; exact hx
        have Q2 := Lib.hid R2
        have Q3 := Lib.hid R3
        clear R2 R3 hr2 hbx3 hchg hne hb1 hb2 hb3 hrow hrow2 hbx2
        go_wp2_with fail
        go_roundg (gk - 1)
        case measure => omega
        case rel => exact ⟨k + 1, V2, alts ++ [x], by omega, by go_num, R1, Q2.out, Q3.out, R5.out, R4.out, by rw [List.length_append, hal]; rfl, R6.out⟩
    · obtain rfl : k = n1 := by omega
      have hge : ¬ (k : Int) < (k : Int) := by omega
      obtain ⟨n2, hn2⟩ : ∃ n2, n2 = N / 256 % 5 := ⟨_, rfl⟩
      have hn2' : (N : Int) / 256 % 5 = (n2 : Int) := by omega
      have hn24 : n2 ≤ 4 := by omega
      have HN2 := Lib.hid hn2'
      clear hn2 hn2'
      go_wp2_with fail
      rw [HN2.out]
      obtain ⟨wo, hwo⟩ : ∃ wo : World, wo = wr := ⟨_, rfl⟩
      subst hwo
      go_loopg [80] n2 (fun gk a wr => ∃ (k : Nat) (VV : Value) (vrts : List Vrt), k + gk = n2 ∧ a = .int .i64 k ∧ Hid (Below w.heap.size w wr) ∧ Hid (Box wr w.heap.size 22 [Value.slice A n c]) ∧
        Hid (Box wr (w.heap.size + 1) 27 [Value.int IntKind.i64 0, Value.bool false, Value.slice none 0 0, Value.slice none 0 0]) ∧ Hid (Box wr (w.heap.size + 1 + 1) 27 [Value.int IntKind.i64 (N % 8), Value.bool ind, V, VV]) ∧
        Hid (ARow wr (w.heap.size + 1 + 1 + 1) V alts) ∧ Hid (VRow wr (w.heap.size + 1 + 1 + 1) VV vrts) ∧ vrts.length = k ∧ Hid (∀ a ∈ vrts, a.Good))
      case atStart => exact ⟨0, _, [], by omega, rfl, hbel.out, hb1.out, hb2.out, hb3.out, hrow.out, World.ownsRow_nil _ _ _ _, rfl, by show ∀ a ∈ [], _; simp⟩
      case round =>
        clear hbel hb1 hb2 hb3 hrow
        obtain ⟨k2, VV, vrts, hk2, rfl, hbel, hb1, hb2, hb3, hrow, hvrow, hvl, hvgood⟩ := hrel
        by_cases hlt2 : k2 < n2
        · have hlt' : (k2 : Int) < (n2 : Int) := by omega
          have x1 := hb1.out.cell 0 rfl
          have hu2 : Hid (U32s wr A n) := HU.out.below hbel.out
          go_upto_region 14 with (go_at_call 8; refine (at_any _ A n c (k2 + 7) _ x1 hn (by omega) hu2.out).mono ?_; rintro e w' ⟨h, hh, rfl, m, rfl⟩)
          clear x1
          obtain ⟨w2, hw2⟩ : ∃ w2, w2 = wr.drewN m := ⟨_, rfl⟩
          rw [← hw2]
          have hch0 : Hid (Chg (fun _ => False) wr w2) := by show Chg _ _ _; rw [hw2]; exact (Chg.refl _ _).drewN _
          clear hw2
          go_cut [12] from 81 to 161 (fun s12 wx => ∃ g, ∃ x : Vrt, s12 = .pointer (some ⟨g, 0, none⟩) ∧ Hid (x.Good) ∧ Hid (wr.heap.size ≤ g) ∧ Hid (Box wx g 46 (vrtCells x)) ∧ Hid (Chg (fun _ => False) wr wx))
          case first =>
            refine wp_region_fill DL14 (by kernel_rfl) (by kernel_rfl) (by kernel_rfl) (fun i v wx => ((P14 h)[i]?.getD .no).ok w2.heap.size 0 [] v wx) (fun listed a wx => J14 w2 (listed.getD 37 false) a wx) ?_ ?_ ?_
            · exact ⟨(Chg.refl _ _).drew, fun e => by cases e⟩
            · intro i o ho listed a wx H hl he
              have hi38 : i < 38 := (Array.getElem?_eq_some_iff.1 ho).1
              rcases (by omega : i = 0 ∨ i = 1 ∨ i = 2 ∨ i = 3 ∨ i = 4 ∨ i = 5 ∨ i = 6 ∨ i = 7 ∨ i = 8 ∨ i = 9 ∨ i = 10 ∨ i = 11 ∨ i = 12 ∨ i = 13 ∨ i = 14 ∨ i = 15 ∨ i = 16 ∨ i = 17 ∨ i = 18 ∨ i = 19 ∨ i = 20 ∨ i = 21 ∨ i = 22 ∨ i = 23 ∨ i = 24 ∨ i = 25 ∨ i = 26 ∨ i = 27 ∨ i = 28 ∨ i = 29 ∨ i = 30 ∨ i = 31 ∨ i = 32 ∨ i = 33 ∨ i = 34 ∨ i = 35 ∨ i = 36 ∨ i = 37) with rfl | rfl | rfl | rfl | rfl | rfl | rfl | rfl | rfl | rfl | rfl | rfl | rfl | rfl | rfl | rfl | rfl | rfl | rfl | rfl | rfl | rfl | rfl | rfl | rfl | rfl | rfl | rfl | rfl | rfl | rfl | rfl | rfl | rfl | rfl | rfl | rfl | rfl
              · cases ho
                refine wpOp_plain rfl rfl ?_
                exact op_val (ex_move (.tmp 11) rfl) (pure14 0 87 (by decide) (by decide) H.inv ((H.base 11 (by rfl)).trans rfl))
              · cases ho
                refine wpOp_plain rfl rfl ?_
                refine op_call (ex_call11 (.tmp 87) (.int .u32 h) rfl (fun _ => rfl) (H.at_ 0 (d := 87) rfl (he ⟨0, .data⟩ (by simp) rfl))) (uri_any h wx hh) ?_
                rintro e w2 ⟨t, rfl, ht, htt, rfl⟩
                exact ⟨_, rfl, (pure14 1 88 (by decide) (by decide) H.inv ⟨_, ⟨t, rfl, ht, htt⟩, rfl⟩)⟩
              · cases ho
                refine wpOp_plain rfl rfl ?_
                exact op_val (ex_move (.tmp 11) rfl) (pure14 2 89 (by decide) (by decide) H.inv ((H.base 11 (by rfl)).trans rfl))
              · cases ho
                refine wpOp_plain rfl rfl ?_
                exact op_val (ex_shr (.tmp 89) 9 (by omega) hh rfl (fun _ => rfl) (H.at_ 2 (d := 89) rfl (he ⟨2, .data⟩ (by simp) rfl))) (pure14 3 90 (by decide) (by decide) H.inv rfl)
              · cases ho
                refine wpOp_plain rfl rfl ?_
                exact op_val (ex_move (.tmp 11) rfl) (pure14 4 91 (by decide) (by decide) H.inv ((H.base 11 (by rfl)).trans rfl))
              · cases ho
                refine wpOp_plain rfl rfl ?_
                exact op_val (ex_move (.tmp 7) rfl) (pure14 5 92 (by decide) (by decide) H.inv ((H.base 7 (by rfl)).trans rfl))
              · cases ho
                refine wpOp_plain rfl rfl ?_
                exact op_val (ex_move (.tmp 11) rfl) (pure14 6 93 (by decide) (by decide) H.inv ((H.base 11 (by rfl)).trans rfl))
              · cases ho
                refine wpOp_plain rfl rfl ?_
                exact op_val (ex_shr (.tmp 93) 3 (by omega) hh rfl (fun _ => rfl) (H.at_ 6 (d := 93) rfl (he ⟨6, .data⟩ (by simp) rfl))) (pure14 7 94 (by decide) (by decide) H.inv rfl)
              · cases ho
                refine wpOp_plain rfl rfl ?_
                refine op_call (ex_call9 (.tmp 92) (.tmp 94) (.int .u32 ((h / 2 ^ 3 : Nat) : Int)) rfl (H.at_ 5 (d := 92) rfl (he ⟨5, .data⟩ (by simp) rfl)) (H.at_ 7 (d := 94) rfl (he ⟨7, .data⟩ (by simp) rfl))) (group_any (h / 2 ^ 3) wx (by omega)) ?_
                rintro e w2 ⟨t, rfl, ht, hb2⟩
                exact ⟨_, rfl, below14 8 95 (by decide) (by decide) H.inv hb2 ⟨t, ht, rfl⟩⟩
              · cases ho
                refine wpOp_plain rfl rfl ?_
                exact op_val (ex_move (.tmp 7) rfl) (pure14 9 96 (by decide) (by decide) H.inv ((H.base 7 (by rfl)).trans rfl))
              · cases ho
                refine wpOp_plain rfl rfl ?_
                exact op_val (ex_move (.tmp 11) rfl) (pure14 10 97 (by decide) (by decide) H.inv ((H.base 11 (by rfl)).trans rfl))
              · cases ho
                refine wpOp_plain rfl rfl ?_
                exact op_val (ex_shr (.tmp 97) 5 (by omega) hh rfl (fun _ => rfl) (H.at_ 10 (d := 97) rfl (he ⟨10, .data⟩ (by simp) rfl))) (pure14 11 98 (by decide) (by decide) H.inv rfl)
              · cases ho
                refine wpOp_plain rfl rfl ?_
                refine op_call (ex_call9 (.tmp 96) (.tmp 98) (.int .u32 ((h / 2 ^ 5 : Nat) : Int)) rfl (H.at_ 9 (d := 96) rfl (he ⟨9, .data⟩ (by simp) rfl)) (H.at_ 11 (d := 98) rfl (he ⟨11, .data⟩ (by simp) rfl))) (group_any (h / 2 ^ 5) wx (by omega)) ?_
                rintro e w2 ⟨t, rfl, ht, hb2⟩
                exact ⟨_, rfl, below14 12 99 (by decide) (by decide) H.inv hb2 ⟨t, ht, rfl⟩⟩
              · cases ho
                refine wpOp_plain rfl rfl ?_
                exact op_val (ex_move (.tmp 7) rfl) (pure14 13 100 (by decide) (by decide) H.inv ((H.base 7 (by rfl)).trans rfl))
              · cases ho
                refine wpOp_plain rfl rfl ?_
                exact op_val (ex_move (.tmp 11) rfl) (pure14 14 101 (by decide) (by decide) H.inv ((H.base 11 (by rfl)).trans rfl))
              · cases ho
                refine wpOp_plain rfl rfl ?_
                exact op_val (ex_shr (.tmp 101) 7 (by omega) hh rfl (fun _ => rfl) (H.at_ 14 (d := 101) rfl (he ⟨14, .data⟩ (by simp) rfl))) (pure14 15 102 (by decide) (by decide) H.inv rfl)
              · cases ho
                refine wpOp_plain rfl rfl ?_
                refine op_call (ex_call9 (.tmp 100) (.tmp 102) (.int .u32 ((h / 2 ^ 7 : Nat) : Int)) rfl (H.at_ 13 (d := 100) rfl (he ⟨13, .data⟩ (by simp) rfl)) (H.at_ 15 (d := 102) rfl (he ⟨15, .data⟩ (by simp) rfl))) (group_any (h / 2 ^ 7) wx (by omega)) ?_
                rintro e w2 ⟨t, rfl, ht, hb2⟩
                exact ⟨_, rfl, below14 16 103 (by decide) (by decide) H.inv hb2 ⟨t, ht, rfl⟩⟩
              · cases ho
                refine wpOp_plain rfl rfl ?_
                exact op_val (ex_slice3 _ _ _ rfl (fun _ => rfl) ⟨_, rfl⟩ ⟨_, rfl⟩ ⟨_, rfl⟩) (below14 17 104 (by decide) (by decide) H.inv ((Below.refl _ _).alloc (Nat.le_refl _) _) ⟨_, rfl, H.inv.1.size, heap_alloc_new _ _⟩)
              · cases ho
                refine wpOp_plain rfl rfl ?_
                exact op_val (ex_move (.tmp 11) rfl) (pure14 18 105 (by decide) (by decide) H.inv ((H.base 11 (by rfl)).trans rfl))
              · cases ho
                refine wpOp_plain rfl rfl ?_
                exact op_val (ex_shr (.tmp 105) 10 (by omega) hh rfl (fun _ => rfl) (H.at_ 18 (d := 105) rfl (he ⟨18, .data⟩ (by simp) rfl))) (pure14 19 106 (by decide) (by decide) H.inv rfl)
              · cases ho
                refine wpOp_plain rfl rfl ?_
                exact op_val (ex_rem (.tmp 106) 3 (by omega) (by omega) rfl (fun _ => rfl) (H.at_ 19 (d := 106) rfl (he ⟨19, .data⟩ (by simp) rfl))) (pure14 20 107 (by decide) (by decide) H.inv rfl)
              · cases ho
                refine wpOp_plain rfl rfl ?_
                obtain ⟨g, e1, e2, e3⟩ := H.at_ 17 (d := 104) rfl (he ⟨17, .data⟩ (by simp) rfl)
                exact op_val (ex_indexAddr (.tmp 104) (.tmp 107) g (h / 2 ^ 10 % 3) 3 (Nat.mod_lt _ (by omega)) (by omega) rfl e1 (H.at_ 20 (d := 107) rfl (he ⟨20, .data⟩ (by simp) rfl))) (pure14 21 108 (by decide) (by decide) H.inv ⟨g, rfl, e2, e3⟩)
              · cases ho
                refine wpOp_plain rfl rfl ?_
                obtain ⟨g, e1, e2, e3⟩ := H.at_ 21 (d := 108) rfl (he ⟨21, .data⟩ (by simp) rfl)
                obtain ⟨t, ht, hg⟩ := tri_get _ _ _ _ (Nat.mod_lt _ (by omega))
                exact op_val (ex_load9 (.tmp 108) g _ _ rfl e1 (cell_of e3 _ hg)) (pure14 22 109 (by decide) (by decide) H.inv ⟨t, ht, rfl⟩)
              · cases ho
                refine wpOp_plain rfl rfl ?_
                exact op_val (ex_slice3 _ _ _ rfl (fun _ => rfl) ⟨_, rfl⟩ ⟨_, rfl⟩ ⟨_, rfl⟩) (below14 23 110 (by decide) (by decide) H.inv ((Below.refl _ _).alloc (Nat.le_refl _) _) ⟨_, rfl, H.inv.1.size, heap_alloc_new _ _⟩)
              · cases ho
                refine wpOp_plain rfl rfl ?_
                exact op_val (ex_move (.tmp 11) rfl) (pure14 24 111 (by decide) (by decide) H.inv ((H.base 11 (by rfl)).trans rfl))
              · cases ho
                refine wpOp_plain rfl rfl ?_
                exact op_val (ex_shr (.tmp 111) 11 (by omega) hh rfl (fun _ => rfl) (H.at_ 24 (d := 111) rfl (he ⟨24, .data⟩ (by simp) rfl))) (pure14 25 112 (by decide) (by decide) H.inv rfl)
              · cases ho
                refine wpOp_plain rfl rfl ?_
                exact op_val (ex_rem (.tmp 112) 3 (by omega) (by omega) rfl (fun _ => rfl) (H.at_ 25 (d := 112) rfl (he ⟨25, .data⟩ (by simp) rfl))) (pure14 26 113 (by decide) (by decide) H.inv rfl)
              · cases ho
                refine wpOp_plain rfl rfl ?_
                obtain ⟨g, e1, e2, e3⟩ := H.at_ 23 (d := 110) rfl (he ⟨23, .data⟩ (by simp) rfl)
                exact op_val (ex_indexAddr (.tmp 110) (.tmp 113) g (h / 2 ^ 11 % 3) 3 (Nat.mod_lt _ (by omega)) (by omega) rfl e1 (H.at_ 26 (d := 113) rfl (he ⟨26, .data⟩ (by simp) rfl))) (pure14 27 114 (by decide) (by decide) H.inv ⟨g, rfl, e2, e3⟩)
              · cases ho
                refine wpOp_plain rfl rfl ?_
                obtain ⟨g, e1, e2, e3⟩ := H.at_ 27 (d := 114) rfl (he ⟨27, .data⟩ (by simp) rfl)
                obtain ⟨t, ht, hg⟩ := tri_get _ _ _ _ (Nat.mod_lt _ (by omega))
                exact op_val (ex_load9 (.tmp 114) g _ _ rfl e1 (cell_of e3 _ hg)) (pure14 28 115 (by decide) (by decide) H.inv ⟨t, ht, rfl⟩)
              · cases ho
                refine wpOp_plain rfl rfl ?_
                exact op_val (ex_slice3 _ _ _ rfl (fun _ => rfl) ⟨_, rfl⟩ ⟨_, rfl⟩ ⟨_, rfl⟩) (below14 29 116 (by decide) (by decide) H.inv ((Below.refl _ _).alloc (Nat.le_refl _) _) ⟨_, rfl, H.inv.1.size, heap_alloc_new _ _⟩)
              · cases ho
                refine wpOp_plain rfl rfl ?_
                exact op_val (ex_move (.tmp 11) rfl) (pure14 30 117 (by decide) (by decide) H.inv ((H.base 11 (by rfl)).trans rfl))
              · cases ho
                refine wpOp_plain rfl rfl ?_
                exact op_val (ex_shr (.tmp 117) 13 (by omega) hh rfl (fun _ => rfl) (H.at_ 30 (d := 117) rfl (he ⟨30, .data⟩ (by simp) rfl))) (pure14 31 118 (by decide) (by decide) H.inv rfl)
              · cases ho
                refine wpOp_plain rfl rfl ?_
                exact op_val (ex_rem (.tmp 118) 3 (by omega) (by omega) rfl (fun _ => rfl) (H.at_ 31 (d := 118) rfl (he ⟨31, .data⟩ (by simp) rfl))) (pure14 32 119 (by decide) (by decide) H.inv rfl)
              · cases ho
                refine wpOp_plain rfl rfl ?_
                obtain ⟨g, e1, e2, e3⟩ := H.at_ 29 (d := 116) rfl (he ⟨29, .data⟩ (by simp) rfl)
                exact op_val (ex_indexAddr (.tmp 116) (.tmp 119) g (h / 2 ^ 13 % 3) 3 (Nat.mod_lt _ (by omega)) (by omega) rfl e1 (H.at_ 32 (d := 119) rfl (he ⟨32, .data⟩ (by simp) rfl))) (pure14 33 120 (by decide) (by decide) H.inv ⟨g, rfl, e2, e3⟩)
              · cases ho
                refine wpOp_plain rfl rfl ?_
                obtain ⟨g, e1, e2, e3⟩ := H.at_ 33 (d := 120) rfl (he ⟨33, .data⟩ (by simp) rfl)
                obtain ⟨t, ht, hg⟩ := tri_get _ _ _ _ (Nat.mod_lt _ (by omega))
                exact op_val (ex_load9 (.tmp 120) g _ _ rfl e1 (cell_of e3 _ hg)) (pure14 34 121 (by decide) (by decide) H.inv ⟨t, ht, rfl⟩)
              · cases ho
                refine wpOp_plain rfl rfl ?_
                obtain ⟨t0, p0, e0⟩ := H.at_ 1 (d := 88) rfl (he ⟨1, .data⟩ (by simp) rfl)
                have e1 := H.at_ 3 (d := 90) rfl (he ⟨3, .data⟩ (by simp) rfl)
                have e2 := H.at_ 4 (d := 91) rfl (he ⟨4, .data⟩ (by simp) rfl)
                obtain ⟨t3, p3, e3⟩ := H.at_ 8 (d := 95) rfl (he ⟨8, .data⟩ (by simp) rfl)
                obtain ⟨t4, p4, e4⟩ := H.at_ 12 (d := 99) rfl (he ⟨12, .data⟩ (by simp) rfl)
                obtain ⟨t5, p5, e5⟩ := H.at_ 16 (d := 103) rfl (he ⟨16, .data⟩ (by simp) rfl)
                obtain ⟨t6, p6, e6⟩ := H.at_ 22 (d := 109) rfl (he ⟨22, .data⟩ (by simp) rfl)
                obtain ⟨t7, p7, e7⟩ := H.at_ 28 (d := 115) rfl (he ⟨28, .data⟩ (by simp) rfl)
                obtain ⟨t8, p8, e8⟩ := H.at_ 34 (d := 121) rfl (he ⟨34, .data⟩ (by simp) rfl)
                exact op_val (ex_build46 (.tmp 88) (.tmp 90) (.tmp 91) (.tmp 95) (.tmp 99) (.tmp 103) (.tmp 109) (.tmp 115) (.tmp 121) t0 t3 t4 t5 t6 t7 t8 _ _ rfl e0 e1 e2 e3 e4 e5 e6 e7 e8) (pure14 35 122 (by decide) (by decide) H.inv ⟨_, ⟨p0, Nat.lt_of_le_of_lt (Nat.div_le_self _ _) hh, hh, (show 0 < 4294967296 by decide), p8, Nat.zero_le _, Nat.zero_le _, p3, p4, p5, p6, p7, Nat.zero_le _⟩, rfl⟩)
              · cases ho
                refine wpOp_plain rfl rfl ?_
                have n37 : listed.getD 37 false = false := by
                  cases e37 : listed.getD 37 false with
                  | false => rfl
                  | true => have e36 := H.closed 37 _ rfl e37 ⟨36, .data⟩ (by simp) rfl; rw [hl] at e36; cases e36
                refine op_val (ex_alloc46 rfl) ⟨_, rfl, ⟨_, _, rfl, H.inv.1.size, rfl, Box.new rfl⟩, ?_, ?_⟩
                · intro j u _ hu
                  exact PK.stable (Ext.alloc _ _ _) (fun _ _ h => h.alloc _) _ u hu
                · refine ⟨H.inv.1.alloc _, fun e => ?_⟩
                  rw [getD_set_other (by decide), n37] at e; cases e
              · cases ho
                refine wpOp_plain rfl rfl ?_
                obtain ⟨x, hx, e1⟩ := H.at_ 35 (d := 122) rfl (he ⟨35, .data⟩ (by simp) rfl)
                obtain ⟨g, l, e2, e3, e4, e5⟩ := H.at_ 36 (d := 12) rfl (he ⟨36, .data⟩ (by simp) rfl)
                refine op_store46 (.tmp 12) (.tmp 122) g l x rfl e2 e1 e4 e5 ?_
                intro w3 hbx hch
                refine ⟨_, rfl, trivial, ?_, ?_⟩
                · intro j u _ hu
                  exact PK.store g l (vrtCells x) hch e5 hbx rfl _ u (not_row14 j) hu
                · refine ⟨⟨hch.os.trans H.inv.1.os, hch.tape.trans H.inv.1.tape, hch.output.trans H.inv.1.output, Nat.le_trans H.inv.1.size hch.size, fun i hi _ => (hch.block i (Nat.lt_of_lt_of_le hi H.inv.1.size) (by omega)).trans (H.inv.1.block i hi id)⟩, fun _ => ⟨g, x, e2, hx, e3, hbx⟩⟩
            · intro vals listed wx hv hall hJ
              have h37 := hall 37 (by decide)
              rw [h37] at hJ
              obtain ⟨g, x, hg1, hx, hg2, hbx⟩ := hJ.2 rfl
              have hchg := hJ.1
              have e12 : vals 12 = .pointer (some ⟨g, 0, none⟩) := fill_eval hg1 (by decide) (by show 12 < 163; decide)
              clear hv hall hJ h37 hg1
              simp only [fill, DL14, List.foldl_cons, List.foldl_nil, Act.put, List.setIfInBounds_toArray, List.set_cons_zero, List.set_cons_succ]
              have E12 := Lib.hid e12
              clear e12
              go_wp2_with fail
              go_meet
              case rel => exact ⟨g, x, E12.out, hx, Nat.le_trans hch0.out.size hg2, hbx, hch0.out.trans hchg⟩
          case rest =>
          obtain ⟨g, x, rfl, hx, hgw, hbx, hch⟩ := hcut
          have hgn : ¬ (g < wr.heap.size) := by have := hgw.out; omega
          have HVL := Lib.hid hvl
          have hvl4 : vrts.length ≤ 4 := by omega
          clear hvl
          have v1 : Hid (1 + (h : Int) / 8 = ((1 + h / 8 : Nat) : Int)) := by show _ = _; omega
          have v2 : Hid (1 + (h : Int) / 65536 % 4000 = ((1 + h / 65536 % 4000 : Nat) : Int)) := by show _ = _; omega
          have v3 : Hid (1 + (h : Int) / 1048576 % 3000 = ((1 + h / 1048576 % 3000 : Nat) : Int)) := by show _ = _; omega
          have v4 : Hid (1 + (h : Int) / 262144 % 1000 = ((1 + h / 262144 % 1000 : Nat) : Int)) := by show _ = _; omega
          go_upto_if 126 with fail
          obtain ⟨b126, hb126⟩ : ∃ b : Bool, (bits BinOp.and IntKind.u32 ((h : Int) / 16384) 1 == 1) = b := ⟨_, rfl⟩
          rw [hb126]
          clear hb126
          go_cut [] from 81 to 161 (fun wx => ∃ x : Vrt, Hid (x.Good) ∧ Hid (Box wx g 46 (vrtCells x)) ∧ Hid (Chg (fun _ => False) wr wx))
          case first =>
            have f3 := Box.frozen hbx.out 3
            have y3 := hbx.out.cell 3 rfl
            cases b126
            all_goals go_wp2_with fail
            all_goals (go_meet; first
              | (rw [v1.out]; exact ⟨{ x with avg := 1 + h / 8 }, { hx.out with avg := by show 1 + h / 8 < 4294967296; omega }, hbx.out.set 3 _, hch.out.setCell _ _ (fun hlt => absurd hlt hgn)⟩)
              | exact ⟨x, hx.out, hbx.out, hch.out⟩)
          case rest =>
          obtain ⟨x, hx, hbx, hch⟩ := hcut
          go_upto_if 134 with fail
          obtain ⟨b134, hb134⟩ : ∃ b : Bool, (bits BinOp.and IntKind.u32 ((h : Int) / 32768) 1 == 1) = b := ⟨_, rfl⟩
          rw [hb134]
          clear hb134
          go_cut [] from 81 to 161 (fun wx => ∃ x : Vrt, Hid (x.Good) ∧ Hid (Box wx g 46 (vrtCells x)) ∧ Hid (Chg (fun _ => False) wr wx))
          case first =>
            have f5 := Box.frozen hbx.out 5
            have y5 := hbx.out.cell 5 rfl
            have f6 := Box.frozen hbx.out 6
            have y6 := hbx.out.cell 6 rfl
            cases b134
            all_goals go_wp2_with fail
            all_goals (go_meet; first
              | (rw [v2.out, v3.out]; exact ⟨{ x with width := 1 + h / 65536 % 4000, height := 1 + h / 1048576 % 3000 }, { hx.out with width := by show 1 + h / 65536 % 4000 ≤ 4000; omega, height := by show 1 + h / 1048576 % 3000 ≤ 3000; omega }, (hbx.out.set 5 _).set 6 _, (hch.out.setCell _ _ (fun hlt => absurd hlt hgn)).setCell _ _ (fun hlt => absurd hlt hgn)⟩)
              | exact ⟨x, hx.out, hbx.out, hch.out⟩)
          case rest =>
          obtain ⟨x, hx, hbx, hch⟩ := hcut
          go_upto_if 148 with fail
          obtain ⟨b148, hb148⟩ : ∃ b : Bool, (bits BinOp.and IntKind.u32 ((h : Int) / 131072) 1 == 1) = b := ⟨_, rfl⟩
          rw [hb148]
          clear hb148
          go_cut [] from 81 to 161 (fun wx => ∃ x : Vrt, Hid (x.Good) ∧ Hid (Box wx g 46 (vrtCells x)) ∧ Hid (Chg (fun _ => False) wr wx))
          case first =>
            have f12 := Box.frozen hbx.out 12
            have y12 := hbx.out.cell 12 rfl
            cases b148
            all_goals go_wp2_with fail
            all_goals (go_meet; first
              | (rw [v4.out]; exact ⟨{ x with rate := 1 + h / 262144 % 1000 }, { hx.out with rate := by show 1 + h / 262144 % 1000 ≤ 1000; omega }, hbx.out.set 12 _, hch.out.setCell _ _ (fun hlt => absurd hlt hgn)⟩)
              | exact ⟨x, hx.out, hbx.out, hch.out⟩)
          case rest =>
          obtain ⟨x, hx, hbx, hch⟩ := hcut
          have hbm : Hid (Box wc (w.heap.size + 1 + 1) 27 [Value.int IntKind.i64 (N % 8), Value.bool ind, V, VV]) := hb3.out.chg hch.out id
          have hvr : Hid (VRow wc (w.heap.size + 1 + 1 + 1) VV vrts) := own_chg hvrow.out hch.out (fun _ _ h => h)
          have hwc : w.heap.size + 1 + 1 + 1 ≤ wc.heap.size := by have := hbm.out.lt; omega
          have z3 := hbm.out.cell 3 rfl
          have y0 := hbx.out.cell 0 rfl
          have y1 := hbx.out.cell 1 rfl
          have y2 := hbx.out.cell 2 rfl
          have y3 := hbx.out.cell 3 rfl
          have y4 := hbx.out.cell 4 rfl
          have y5 := hbx.out.cell 5 rfl
          have y6 := hbx.out.cell 6 rfl
          have y7 := hbx.out.cell 7 rfl
          have y8 := hbx.out.cell 8 rfl
          have y9 := hbx.out.cell 9 rfl
          have y10 := hbx.out.cell 10 rfl
          have y11 := hbx.out.cell 11 rfl
          have y12 := hbx.out.cell 12 rfl
          obtain ⟨i0, hi0, hz, hz1, hz2⟩ := info_parts Tryz.info46
          have HI0 := Lib.hid (And.intro hi0 (And.intro hz (And.intro hz1 hz2)))
          clear hi0 hz hz1 hz2
          have hvge : ∀ i, VV.ownBlock = some i → w.heap.size + 1 + 1 + 1 ≤ i := fun i hi => (World.ownsRow.lt hvrow.out i hi).1
          go_wp2_with (at_builtin; refine wpList_append_lies _ rfl _ _ 25 rfl (w.heap.size + 1 + 1 + 1) 46 i0 vrtZero 13 144 Tryz.underlying25 HI0.out.1 HI0.out.2.1 HI0.out.2.2.1 HI0.out.2.2.2 rfl (by decide) VV vrts.length (vrts.flatMap vrtCells) rfl (hvr.out.alloc _) ⟨wc.heap.size, 0, none⟩ 1 1 (vrtCells x) rfl rfl (World.news_of_block (t := 46) (fr := (0, 0)) (heap_alloc_new _ _)) (vrtCells_one x) (by omega) (by unfold maxLen; omega) (by omega) (by simp; omega) _ rfl ?_; intro g2 cap w5 hown1 hgrow1 _ _; have hbm5 : Box w5 (w.heap.size + 1 + 1) 27 [Value.int IntKind.i64 (N % 8), Value.bool ind, V, VV] := box_grown (hbm.out.alloc _) hgrow1 (fun e => by have := hvge _ e.symm; omega); have q3 := hbm5.cell 3 rfl; have qf := hbm5.frozen 3; have HB5 := Lib.hid hbm5; clear hbm5)
          have hr5 : VRow w5 (w.heap.size + 1 + 1 + 1) (.slice (some ⟨g2, 0, none⟩) (vrts.length + 1) cap) (vrts ++ [x]) := by
            unfold VRow
            rw [List.length_append, List.flatMap_append]
            simpa using hown1
          have hC : Chg (fun i => i = w.heap.size + 1 + 1 ∨ VV.ownBlock = some i) wr (w5.setCell ⟨w.heap.size + 1 + 1, 3, none⟩ (.slice (some ⟨g2, 0, none⟩) (vrts.length + 1) cap)) :=
            (((hch.out.mono (fun _ _ h => h.elim)).alloc _).grown hgrow1 (fun i hi _ => .inr hi)).setCell _ _ (fun _ => .inl rfl)
          have hne : ∀ q, q < w.heap.size + 1 + 1 → ¬ (q = w.heap.size + 1 + 1 ∨ VV.ownBlock = some q) := fun q hq hi => by rcases hi with hi | hi; omega; have := hvge q hi; omega
          have R1 : Below w.heap.size w (w5.setCell ⟨w.heap.size + 1 + 1, 3, none⟩ (.slice (some ⟨g2, 0, none⟩) (vrts.length + 1) cap)) := hbel.out.trans (hC.toBelow hbel.out.size (fun i hi => by rcases hi with rfl | hi; omega; have := hvge i hi; omega))
          have R2 : Hid (Box (w5.setCell ⟨w.heap.size + 1 + 1, 3, none⟩ (.slice (some ⟨g2, 0, none⟩) (vrts.length + 1) cap)) w.heap.size 22 [Value.slice A n c]) := hb1.out.chg hC (hne _ (by omega))
          have R3 : Hid (Box (w5.setCell ⟨w.heap.size + 1 + 1, 3, none⟩ (.slice (some ⟨g2, 0, none⟩) (vrts.length + 1) cap)) (w.heap.size + 1) 27 [Value.int IntKind.i64 0, Value.bool false, Value.slice none 0 0, Value.slice none 0 0]) := hb2.out.chg hC (hne _ (by omega))
          have R4 : Hid (Box (w5.setCell ⟨w.heap.size + 1 + 1, 3, none⟩ (.slice (some ⟨g2, 0, none⟩) (vrts.length + 1) cap)) (w.heap.size + 1 + 1) 27 [Value.int IntKind.i64 (N % 8), Value.bool ind, V, (.slice (some ⟨g2, 0, none⟩) (vrts.length + 1) cap)]) := HB5.out.set 3 _
          have R5 : Hid (ARow (w5.setCell ⟨w.heap.size + 1 + 1, 3, none⟩ (.slice (some ⟨g2, 0, none⟩) (vrts.length + 1) cap)) (w.heap.size + 1 + 1 + 1) V alts) := own_chg hrow.out hC (fun i hi hs => by
            rcases hs with rfl | hs
            · have := (World.ownsRow.lt hrow.out _ hi).1; omega
            · exact own_ne hrow.out hvrow.out (by decide) i hi hs)
          have R6 : Hid (VRow (w5.setCell ⟨w.heap.size + 1 + 1, 3, none⟩ (.slice (some ⟨g2, 0, none⟩) (vrts.length + 1) cap)) (w.heap.size + 1 + 1 + 1) (.slice (some ⟨g2, 0, none⟩) (vrts.length + 1) cap) (vrts ++ [x])) := own_set hr5 (by omega)
          have R7 : Hid (∀ a ∈ vrts ++ [x], a.Good) := by
            show ∀ a ∈ vrts ++ [x], a.Good
            intro a ha
            rcases List.mem_append.1 ha with ha | ha
            · exact hvgood.out a ha
            · rw [List.mem_singleton.1 ha]; exact hx.out
          clear hown1 hgrow1 hC hr5 hne
          go_roundg (gk - 1)
          case measure => omega
          case rel => exact ⟨k2 + 1, _, vrts ++ [x], by omega, by go_num, R1, R2.out, R3.out, R4.out, R5.out, R6.out, by rw [List.length_append, HVL.out]; rfl, R7.out⟩
        · obtain rfl : k2 = n2 := by omega
          have hge : ¬ (k2 : Int) < (k2 : Int) := by omega
          subst hvl
          subst hal
          obtain ⟨A5, c5, hV5⟩ := own_shape hrow.out
          subst hV5
          obtain ⟨A6, c6, hV6⟩ := own_shape hvrow.out
          subst hV6
          have y0 := hb3.out.cell 0 rfl
          have z0 := hb2.out.cell 0 rfl
          have f0 := hb2.out.frozen 0
          have y1 := hb3.out.cell 1 rfl
          have z1 := hb2.out.cell 1 rfl
          have f1 := hb2.out.frozen 1
          have y2 := hb3.out.cell 2 rfl
          have z2 := hb2.out.cell 2 rfl
          have f2 := hb2.out.frozen 2
          have y3 := hb3.out.cell 3 rfl
          have z3 := hb2.out.cell 3 rfl
          have f3 := hb2.out.frozen 3
          have e8 : Hid ((N : Int) % 8 = ((N % 8 : Nat) : Int)) := by show _ = _; omega
          go_wp2_with fail
          have hch : Chg (fun i => i = w.heap.size + 1) wr ((((wr.setCell ⟨w.heap.size + 1, 0, none⟩ (.int .i64 ((N : Int) % 8))).setCell ⟨w.heap.size + 1, 1, none⟩ (.bool ind)).setCell ⟨w.heap.size + 1, 2, none⟩ (.slice A5 alts.length c5)).setCell ⟨w.heap.size + 1, 3, none⟩ (.slice A6 vrts.length c6)) :=
            ((((Chg.refl (fun i => i = w.heap.size + 1) wr).setCell ⟨w.heap.size + 1, 0, none⟩ _ (fun _ => rfl)).setCell ⟨w.heap.size + 1, 1, none⟩ _ (fun _ => rfl)).setCell ⟨w.heap.size + 1, 2, none⟩ _ (fun _ => rfl)).setCell ⟨w.heap.size + 1, 3, none⟩ _ (fun _ => rfl)
          have hB := hbel.out.trans (hch.toBelow hbel.out.size (fun i hi => by omega))
          have hA : ARow _ (w.heap.size + 1 + 1 + 1) _ alts := own_chg hrow.out hch (fun i hi hs => by have := (World.ownsRow.lt hrow.out _ hi).1; omega)
          have hV : VRow _ (w.heap.size + 1 + 1 + 1) _ vrts := own_chg hvrow.out hch (fun i hi hs => by have := (World.ownsRow.lt hvrow.out _ hi).1; omega)
          have hal' : alts.length ≤ 4 := by omega
          have hvl' : vrts.length ≤ 4 := by omega
          have HHA := Lib.hid hA
          have HHV := Lib.hid hV
          have HHB := Lib.hid hB
          clear hch hB hA hV y0 y1 y2 y3 f0 f1 f2 f3
          cases ind
          · (try simp only [Exit.inBlock, Exit.then])
            refine bodyPost_ret (by simp [results, Tryz.results4, go_sem, z0, z1, z2, z3]; try rfl) rfl ?_
            exact ⟨_, _, alts, vrts, N % 8, .inl rfl, row_mono HHA.out (by omega), row_mono HHV.out (by omega), by omega, hal', hvl', hgood.out, hvgood.out, HHB.out⟩
          · (try simp only [Exit.inBlock, Exit.then])
            refine bodyPost_ret (by simp [results, Tryz.results4, go_sem, z0, z1, z2, z3]; try rfl) rfl ?_
            exact ⟨_, _, alts, vrts, N % 8, .inr rfl, row_mono HHA.out (by omega), row_mono HHV.out (by omega), by omega, hal', hvl', hgood.out, hvgood.out, HHB.out⟩
end Go.Proofs.YtelkphcbopbhoaaGreatDoor
