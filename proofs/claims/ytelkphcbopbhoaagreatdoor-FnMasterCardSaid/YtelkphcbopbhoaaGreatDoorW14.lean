/-
  Walks: begins.
-/
import Derived.Test.YtelkphcbopbhoaaGreatDoorW13
namespace Go.Proofs.YtelkphcbopbhoaaGreatDoor
open Go Go.RowKit

theorem begins_any (s h : Bs) (w : World) (hs : s.length ≤ 1000000) :
    Calls Tryz.prog 25 #[.string (S s), .string (S h)] w fun e w' => e = .returned (.bool (h.isPrefixOf s)) ∧ w = w' := by
  have h1 : (S s).size = s.length := rfl
  have h2 : (S h).size = h.length := rfl
  by_cases hl : h.length ≤ s.length
  · have hl' : (h.length : Int) ≤ (s.length : Int) := by omega
    go_enter Tryz.func25, Tryz.ntmps25
    go_wp2
    go_ret
    refine ⟨?_, rfl⟩
    show Ending.returned (.bool _) = _
    rw [ba_toList, ba_toList, Lib.extract_data, S_list, S_list]
    have e : ((s.drop 0).take (h.length - 0) == h) = h.isPrefixOf s := by
      rw [List.drop_zero, Nat.sub_zero]
      cases e : h.isPrefixOf s with
      | true =>
        have := List.isPrefixOf_iff_prefix.1 e
        rw [List.prefix_iff_eq_take.1 this]
        simp
      | false =>
        simp only [beq_eq_false_iff_ne, ne_eq]
        intro e2
        have : h <+: s := by rw [← e2]; exact List.take_prefix _ _
        rw [List.isPrefixOf_iff_prefix.2 this] at e
        cases e
    rw [e]
  · have hl' : ¬ (h.length : Int) ≤ (s.length : Int) := by omega
    have hp : Hid (h.isPrefixOf s = false) := by
      show _ = _
      cases e : h.isPrefixOf s with
      | false => rfl
      | true => exact absurd (List.isPrefixOf_iff_prefix.1 e).length_le hl
    go_enter Tryz.func25, Tryz.ntmps25
    go_wp2
    go_ret
    rw [hp.out]
    exact ⟨rfl, rfl⟩
end Go.Proofs.YtelkphcbopbhoaaGreatDoor
