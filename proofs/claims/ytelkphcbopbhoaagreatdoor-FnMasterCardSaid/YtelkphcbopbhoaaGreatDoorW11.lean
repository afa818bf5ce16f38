/-
  Walks: masterOf's closures.
-/
import Derived.Test.YtelkphcbopbhoaaGreatDoorW10
namespace Go.Proofs.YtelkphcbopbhoaaGreatDoor
open Go Go.RowKit

/-- A slice of numbers that came in. -/
def U32s (w : World) (a : Option Addr) (n : Nat) : Prop := (a = none ∧ n = 0) ∨ ∃ b off, a = some ⟨b, off, none⟩ ∧ ∀ i, i < n → ∃ z : Nat, z < 4294967296 ∧ w.cell? ⟨b, off + i, none⟩ = some (.int .u32 z)

theorem u32_nat (X : Int) : ∃ z : Nat, z < 4294967296 ∧ X % 4294967296 = z := ⟨(X % 4294967296).toNat, by omega, by omega⟩
set_option maxHeartbeats 2000000 in
set_option maxRecDepth 100000 in
theorem at_any (B : Nat) (a : Option Addr) (n c k : Nat) (w : World) (hc : w.cell? ⟨B, 0, none⟩ = some (.slice a n c)) (hn : n ≤ 100) (hk : k ≤ 1000) (hu : U32s w a n) :
    Calls Tryz.prog 8 #[.int .i64 k, .pointer (some ⟨B, 0, none⟩)] w fun e w' => ∃ z : Nat, z < 4294967296 ∧ e = .returned (.int .u32 z) ∧ ∃ m, w' = w.drewN m := by
  by_cases h0 : n = 0
  · subst h0
    go_enter Tryz.func8, Tryz.ntmps8
    go_wp2
    go_ret
    obtain ⟨z, hz, e⟩ := u32_nat ((k : Int) * 2654435761)
    exact ⟨z, hz, congrArg (fun x => Ending.returned (Value.int .u32 x)) e, 0, rfl⟩
  · have h0' : ((n : Int) == 0) = false := by simp; omega
    have h0p : 0 < (n : Int) := by omega
    rcases hu with ⟨_, h⟩ | ⟨b, off, rfl, hu⟩
    · exact absurd h h0
    have hmod : k % n < n := Nat.mod_lt _ (by omega)
    obtain ⟨z, hz, hcz⟩ := hu (k % n) hmod
    have hq : (k : Int).tmod n = ((k % n : Nat) : Int) := by simp [Int.tmod]
    have hq2 : (k : Int).tdiv n = ((k / n : Nat) : Int) := by simp [Int.tdiv]
    have hm2 : ((k % n : Nat) : Int) < (n : Int) := by omega
    have hd2 : k / n ≤ 1000 := Nat.le_trans (Nat.div_le_self _ _) hk
    go_enter Tryz.func8, Tryz.ntmps8
    go_wp2_with fail
    go_quiet (fail)
    go_wp2
    go_ret
    obtain ⟨z2, hz2, e⟩ := u32_nat ((z : Int) + wrap64 ((k : Int) / (n : Int)) % 4294967296 * 40503 % 4294967296)
    exact ⟨z2, hz2, congrArg (fun x => Ending.returned (Value.int .u32 x)) e, nq, rfl⟩

theorem group_any (n : Nat) (w : World) (hn : n < 4294967296) :
    Calls Tryz.prog 9 #[.int .u32 n] w fun e w' => ∃ t : Bs, e = .returned (.string (S t)) ∧ (t = [] ∨ t = vg ∨ t = vh) ∧ Below w.heap.size w w' := by
  have h3 : n % 3 = 0 ∨ n % 3 = 1 ∨ n % 3 = 2 := by omega
  rcases h3 with h | h | h
  all_goals (
    have h' : (n : Int) % 3 = ((n % 3 : Nat) : Int) := by omega
    rw [h] at h')
  all_goals (
    go_enter Tryz.func9, Tryz.ntmps9
    go_wp2
    go_ret)
  · exact ⟨[], rfl, .inl rfl, (Below.refl _ _).alloc (Nat.le_refl _) _⟩
  · exact ⟨vg, rfl, .inr (.inl rfl), (Below.refl _ _).alloc (Nat.le_refl _) _⟩
  · exact ⟨vh, rfl, .inr (.inr rfl), (Below.refl _ _).alloc (Nat.le_refl _) _⟩
end Go.Proofs.YtelkphcbopbhoaaGreatDoor
