/-
  Walks: small functions of the reader.
-/
import Derived.Test.YtelkphcbopbhoaaGreatDoorRC
import Derived.Test.YtelkphcbopbhoaaGreatDoorWF
namespace Go.Proofs.YtelkphcbopbhoaaGreatDoor
open Go Go.RowKit

def mplCells (vs : Value) (ver : Nat) (ind : Bool) : List Value := [vs, .string ⟨#[]⟩, .string ⟨#[]⟩, .slice none 0 0, .int .i64 0, .int .i8 0, .int .u8 ver, .bool ind]
theorem newMpl_any (w : World) : Calls Tryz.prog 13 #[] w fun e w' => e = .returned (.pointer (some ⟨w.heap.size, 0, none⟩)) ∧ Box w' w.heap.size 77 (mplCells (.slice none 0 0) 3 false) ∧ Below w.heap.size w w' := by
  go_enter Tryz.func13, Tryz.ntmps13
  go_wp2
  go_ret
  refine ⟨rfl, Box.new rfl, (Below.refl _ _).alloc (Nat.le_refl _) _⟩
theorem newReader_any (v : Value) (w : World) (hv : ∃ A n c, v = .slice A n c) : Calls Tryz.prog 15 #[v] w fun e w' => e = .returned (.pointer (some ⟨w.heap.size, 0, none⟩)) ∧ w' = w.alloc (.cells #[v, .int .i64 0, .int .i64 (-1)] 85) := by
  obtain ⟨A, n, c, rfl⟩ := hv
  go_enter Tryz.func15, Tryz.ntmps15
  go_wp2
  go_ret
  exact ⟨rfl, rfl⟩
theorem setInd_any (P : Nat) (vs : Value) (ver : Nat) (ind : Bool) (w : World) (h : Box w P 77 (mplCells vs ver ind)) :
    Calls Tryz.prog 48 #[.pointer (some ⟨P, 0, none⟩), .bool true] w fun e w' => e = .returned (.tuple #[]) ∧ w' = w.setCell ⟨P, 7, none⟩ (.bool true) := by
  have h7 := h.cell 7 rfl
  have f7 := h.frozen 7
  go_enter Tryz.func48, Tryz.ntmps48
  go_wp2
  go_end0
  exact ⟨rfl, rfl⟩
set_option maxRecDepth 100000 in
theorem upper_any (s : ByteArray) (w : World) (hs : s.size ≤ 1000) (hc : Hid (∀ i (h : i < s.size), 65 ≤ s[i].toNat ∧ s[i].toNat ≤ 90)) : Calls Tryz.prog 50 #[.string s] w fun e w' => e = .returned (.string s) ∧ w = w' := by
  go_enter Tryz.func50, Tryz.ntmps50
  go_wp2
  go_loop [3, 4, 5] (fun a b i => ∃ k : Nat, k ≤ s.size ∧ a = .bool true ∧ b = .bool false ∧ i = .int .i64 k) (fun _ _ i => s.size - (intOf i).toNat)
  case atStart => exact ⟨0, by omega, rfl, rfl, rfl⟩
  case round =>
    obtain ⟨k, hk, rfl, rfl, rfl⟩ := hrel
    by_cases hlt : k < s.size
    · have hlt' : (k : Int) < (s.size : Int) := by omega
      have h1 := hc.out k hlt
      have h2 : (65 : Int) ≤ (s[k].toNat : Int) := by omega
      have h3 : (s[k].toNat : Int) ≤ 90 := by omega
      clear h1
      go_wp2
      go_round
      case rel => exact ⟨k + 1, by omega, rfl, rfl, by go_num⟩
      case measure => simp [intOf]; omega
    · have hlt' : ¬ (k : Int) < (s.size : Int) := by omega
      go_wp2
      go_ret
      exact ⟨rfl, rfl⟩
theorem upper_yes (w : World) : Calls Tryz.prog 50 #[.string ⟨#[89, 69, 83]⟩] w fun e w' => e = .returned (.string ⟨#[89, 69, 83]⟩) ∧ w = w' := upper_any _ w (by decide) (by
  show ∀ i (h : i < 3), _
  intro i h
  have : i = 0 ∨ i = 1 ∨ i = 2 := by omega
  rcases this with rfl | rfl | rfl <;> exact ⟨by decide +revert, by decide +revert⟩)
theorem upper_no (w : World) : Calls Tryz.prog 50 #[.string ⟨#[78, 79]⟩] w fun e w' => e = .returned (.string ⟨#[78, 79]⟩) ∧ w = w' := upper_any _ w (by decide) (by
  show ∀ i (h : i < 2), _
  intro i h
  have : i = 0 ∨ i = 1 := by omega
  rcases this with rfl | rfl <;> exact ⟨by decide +revert, by decide +revert⟩)
end Go.Proofs.YtelkphcbopbhoaaGreatDoor
