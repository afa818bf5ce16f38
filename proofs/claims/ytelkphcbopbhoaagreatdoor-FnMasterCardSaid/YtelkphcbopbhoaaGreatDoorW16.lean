/-
  Walks: readable.
-/
import Derived.Test.YtelkphcbopbhoaaGreatDoorW15
namespace Go.Proofs.YtelkphcbopbhoaaGreatDoor
open Go Go.RowKit

/-- "#EXT-X-KEY:" -/
def tKEY : Bs := [35, 69, 88, 84, 45, 88, 45, 75, 69, 89, 58]
/-- "#EXT-X-MAP:" -/
def tMAP : Bs := [35, 69, 88, 84, 45, 88, 45, 77, 65, 80, 58]
theorem pieces_len : ∀ l : Bs, (pieces l).length ≤ l.length + 1
  | [] => by simp [pieces]
  | c :: r => by
    have ih := pieces_len r
    simp only [pieces]
    split
    · simp; omega
    · split
      · simp
      · rename_i h; rw [h] at ih; simp at ih ⊢; omega
/-- Whether a text begins with another one. -/
def hasPB (p : ByteArray) (x : Bs) : Bool := p.data.toList.isPrefixOf x
theorem S_data (p : ByteArray) : S p.data.toList = p := rfl
theorem begins_all (x : Bs) (p : ByteArray) (w : World) (hs : x.length ≤ 1000000) :
    Calls Tryz.prog 25 #[.string (S x), .string p] w fun e w' => e = .returned (.bool (hasPB p x)) ∧ w = w' := begins_any x p.data.toList w hs
set_option maxHeartbeats 1000000 in
set_option maxRecDepth 100000 in
theorem readable_any (l : Bs) (w : World) (hl : l.length ≤ 8192) (hasc : ∀ c ∈ l, c.toNat < 128) (htab : Lib.TabIs Tryz.prog w "bytes.asciiSpace" .u8 Lib.asciiSpaceTab)
    (hno : ∀ p ∈ (pieces l).map Lib.trimSpace, p.length ≤ 8192 ∧ tKEY.isPrefixOf p = false ∧ tMAP.isPrefixOf p = false) :
    Calls Tryz.prog 12 #[.string (S l)] w fun e w' => e = .returned (.bool true) ∧ Below w.heap.size w w' := by
  have hsz : (S l).size = l.length := rfl
  have hle : ¬ (8192 : Int) < (l.length : Int) := by omega
  have HN := Lib.hid hno
  clear hno
  go_enter Tryz.func12, Tryz.ntmps12
  go_wp2_with (go_at_call 24; refine (lines_any l w (by omega) hasc htab).mono ?_; rintro e w' ⟨r, rfl, hr, hb⟩; obtain ⟨g, cap, rfl, _, _⟩ := hr.form (by rw [List.length_map]; exact List.length_pos_iff.2 (pieces_ne l)))
  have hpl := pieces_len l
  have hp0 := List.length_pos_iff.2 (pieces_ne l)
  obtain ⟨L, hL⟩ : ∃ L, L = (pieces l).map Lib.trimSpace := ⟨_, rfl⟩
  have hLl : L.length = (pieces l).length := by rw [hL, List.length_map]
  rw [← hL] at hr
  have HN2 : Hid (∀ p ∈ L, p.length ≤ 8192 ∧ tKEY.isPrefixOf p = false ∧ tMAP.isPrefixOf p = false) := by show ∀ p ∈ L, _; rw [hL]; exact HN.out
  clear hL HN
  have hLm : (pieces l).length ≤ 8193 := by omega
  have HLL := Lib.hid hLl
  clear hLl hpl hp0
  have HR := Lib.hid hr
  have HB := Lib.hid hb
  clear hr hb
  go_loopg [3, 4, 5, 14] (pieces l).length (fun gk inf bound seg a wr => ∃ (k : Nat) (b : Bool) (q : Nat), k + gk = (pieces l).length ∧ inf = .bool b ∧ bound = .bool false ∧ seg = .int .i64 q ∧ q ≤ k ∧ a = .int .i64 k ∧ wr = w')
  case atStart => exact ⟨0, false, 0, by omega, rfl, rfl, rfl, by omega, rfl, rfl⟩
  case round =>
    obtain ⟨k, b, q, hk, rfl, rfl, rfl, hq, rfl, rfl⟩ := hrel
    by_cases hlt : k < (pieces l).length
    · have hlt' : (k : Int) < ((pieces l).length : Int) := by omega
      have hlL : k < L.length := by have := HLL.out; omega
      have hc := HR.out.get rfl k hlL
      obtain ⟨x, hx⟩ : ∃ x, x = L[k] := ⟨_, rfl⟩
      rw [← hx] at hc
      have hxx := HN2.out _ (List.getElem_mem hlL)
      rw [← hx] at hxx
      have hxl : x.length ≤ 1000000 := by omega
      have h1 : hasPB ⟨#[35, 69, 88, 84, 45, 88, 45, 75, 69, 89, 58]⟩ x = false := hxx.2.1
      have h2 : hasPB ⟨#[35, 69, 88, 84, 45, 88, 45, 77, 65, 80, 58]⟩ x = false := hxx.2.2
      clear hx hxx hlL
      cases b
      all_goals go_wp2_with (go_at_call 25; refine (begins_all _ _ _ hxl).mono ?_; rintro e w2 ⟨rfl, rfl⟩)
      all_goals (
        go_roundg (gk - 1)
        case measure => omega
        case rel => first
          | exact ⟨k + 1, true, q, by omega, rfl, rfl, rfl, by omega, by go_num, rfl⟩
          | exact ⟨k + 1, false, q, by omega, rfl, rfl, rfl, by omega, by go_num, rfl⟩
          | exact ⟨k + 1, false, q + 1, by omega, rfl, rfl, by go_num, by omega, by go_num, rfl⟩)
    · have hlt' : ¬ (k : Int) < ((pieces l).length : Int) := by omega
      go_wp2_with fail
      go_ret
      exact ⟨rfl, HB.out⟩
end Go.Proofs.YtelkphcbopbhoaaGreatDoor
