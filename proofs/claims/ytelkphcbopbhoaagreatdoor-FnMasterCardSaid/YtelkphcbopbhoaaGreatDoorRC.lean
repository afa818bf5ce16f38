/-
  Frames: what of a world may have changed.
-/
import Derived.Test.YtelkphcbopbhoaaGreatDoorW11
namespace Go.Proofs.YtelkphcbopbhoaaGreatDoor
open Go Go.RowKit

/-- w' is w, and more; of what was there only the blocks of S may have changed. -/
structure Chg (S : Nat → Prop) (w w' : World) : Prop where
  os : w'.os = w.os
  tape : w'.tape = w.tape
  output : w'.output = w.output
  size : w.heap.size ≤ w'.heap.size
  block : ∀ i, i < w.heap.size → ¬ S i → w'.heap[i]? = w.heap[i]?
theorem Chg.refl (S : Nat → Prop) (w : World) : Chg S w w := ⟨rfl, rfl, rfl, Nat.le_refl _, fun _ _ _ => rfl⟩
theorem Chg.trans {S : Nat → Prop} {w w1 w2 : World} (h : Chg S w w1) (k : Chg S w1 w2) : Chg S w w2 :=
  ⟨k.os.trans h.os, k.tape.trans h.tape, k.output.trans h.output, Nat.le_trans h.size k.size, fun i hi hs => (k.block i (Nat.lt_of_lt_of_le hi h.size) hs).trans (h.block i hi hs)⟩
theorem Chg.alloc {S : Nat → Prop} {w w1 : World} (h : Chg S w w1) (o : Obj) : Chg S w (w1.alloc o) :=
  ⟨h.os, h.tape, h.output, Nat.le_trans h.size (by simp), fun i hi hs => by rw [← h.block i hi hs]; exact ((Below.refl w1.heap.size w1).alloc (Nat.le_refl _) o).block i (Nat.lt_of_lt_of_le hi h.size)⟩
theorem Chg.drew {S : Nat → Prop} {w w1 : World} (h : Chg S w w1) : Chg S w w1.drew := ⟨h.os, h.tape, h.output, h.size, h.block⟩
theorem Chg.drewN {S : Nat → Prop} {w w1 : World} (h : Chg S w w1) (n : Nat) : Chg S w (w1.drewN n) := ⟨h.os, h.tape, h.output, h.size, h.block⟩
theorem Chg.below {S : Nat → Prop} {w w1 w2 : World} (h : Chg S w w1) (k : Below w1.heap.size w1 w2) : Chg S w w2 :=
  ⟨k.os.trans h.os, k.tape.trans h.tape, k.output.trans h.output, Nat.le_trans h.size k.size, fun i hi hs => (k.block i (Nat.lt_of_lt_of_le hi h.size)).trans (h.block i hi hs)⟩
theorem Chg.grown {S : Nat → Prop} {w w1 w2 : World} {row : Option Nat} (h : Chg S w w1) (k : w1.grownBy w2 row) (hr : ∀ i, row = some i → i < w.heap.size → S i) : Chg S w w2 :=
  ⟨k.os.trans h.os, k.tape.trans h.tape, k.output.trans h.output, Nat.le_trans h.size k.size, fun i hi hs => (k.block i (Nat.lt_of_lt_of_le hi h.size) (fun e => hs (hr i e.symm hi))).trans (h.block i hi hs)⟩
theorem Chg.setCell {S : Nat → Prop} {w w1 : World} (h : Chg S w w1) (a : Addr) (v : Value) (hs : a.block < w.heap.size → S a.block) : Chg S w (w1.setCell a v) :=
  ⟨h.os, h.tape, h.output, by simpa using h.size, fun i hi hn => by rw [heap_setCell_other w1 a i v (fun e => hn (by subst e; exact hs hi))]; exact h.block i hi hn⟩
theorem Chg.toBelow {S : Nat → Prop} {B : Nat} {w w1 : World} (h : Chg S w w1) (hB : B ≤ w.heap.size) (hS : ∀ i, S i → B ≤ i) : Below B w w1 :=
  ⟨h.os, h.tape, h.output, h.size, fun i hi => h.block i (by omega) (fun s => by have := hS i s; omega)⟩
theorem Box.chg {S : Nat → Prop} {w w1 : World} {b : Nat} {t : TypeId} {l : List Value} (h : Box w b t l) (k : Chg S w w1) (hs : ¬ S b) : Box w1 b t l := by
  unfold Box at h ⊢
  rw [k.block b (Array.getElem?_eq_some_iff.1 h).1 hs]
  exact h
theorem Box.lt {w : World} {b : Nat} {t : TypeId} {l : List Value} (h : Box w b t l) : b < w.heap.size := (Array.getElem?_eq_some_iff.1 h).1
theorem Box.set {w : World} {b : Nat} {t : TypeId} {l : List Value} (h : Box w b t l) (k : Nat) (v : Value) : Box (w.setCell ⟨b, k, none⟩ v) b t (l.set k v) := by
  unfold Box at h ⊢
  rw [heap_setCell_same w b k l.toArray t v h]
  simp
theorem Box.frozen {w : World} {b : Nat} {t : TypeId} {l : List Value} (h : Box w b t l) (k : Nat) : w.frozen? ⟨b, k, none⟩ = false := frozen_of_row w b k l.toArray t h

theorem Box.new {w : World} {b : Nat} {t : TypeId} {l : List Value} (h : b = w.heap.size) : Box (w.alloc (.cells l.toArray t)) b t l := by
  subst h
  exact heap_alloc_new _ _
theorem Chg.mono {S T : Nat → Prop} {w w1 : World} (h : Chg S w w1) (hST : ∀ i, i < w.heap.size → S i → T i) : Chg T w w1 := ⟨h.os, h.tape, h.output, h.size, fun i hi hn => h.block i hi (fun s => hn (hST i hi s))⟩
theorem own_chg {S : Nat → Prop} {w w1 : World} {base n : Nat} {e : TypeId} {size : Nat} {v : Value} {xs : List Value} (h : w.ownsRow base e size v n xs) (k : Chg S w w1) (hs : ∀ i, v.ownBlock = some i → ¬ S i) : w1.ownsRow base e size v n xs := by
  refine ⟨h.1, ?_⟩
  rcases h.2 with h2 | ⟨g, cap, cur, h3, h4, h5, h6⟩
  · exact .inl h2
  · refine .inr ⟨g, cap, cur, h3, h4, ?_, h6⟩
    rw [k.block g (Array.getElem?_eq_some_iff.1 h5).1 (hs g (by rw [h3]; rfl))]
    exact h5
theorem cell_chg {S : Nat → Prop} {w w1 : World} {a : Addr} {v : Value} (h : w.cell? a = some v) (k : Chg S w w1) (hs : ¬ S a.block) : w1.cell? a = some v :=
  (World.cell?_of_block (k.block a.block (World.block_lt_of_cell? w a h) hs)).trans h
end Go.Proofs.YtelkphcbopbhoaaGreatDoor
