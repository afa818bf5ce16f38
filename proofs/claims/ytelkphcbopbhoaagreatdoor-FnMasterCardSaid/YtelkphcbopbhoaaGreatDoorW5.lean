/-
  Walks: the texts of spec: Decimal, Line, seconds.
-/
import Derived.Test.YtelkphcbopbhoaaGreatDoorW4
import Derived.Test.YtelkphcbopbhoaaGreatDoorLA
namespace Go.Proofs.YtelkphcbopbhoaaGreatDoor
open Go Go.RowKit

theorem S_append (a b : Bs) : S a ++ S b = S (a ++ b) := by
  apply ByteArray.ext
  simp [S]
theorem S_lit (l : Bs) : (⟨l.toArray⟩ : ByteArray) = S l := rfl


theorem enc_dig {z : Int} {n : Nat} (h : z = 48 + (n : Int)) (hn : n < 10) : Utf8.encode z = S [UInt8.ofNat (48 + n)] := by
  subst h
  have : n = 0 ∨ n = 1 ∨ n = 2 ∨ n = 3 ∨ n = 4 ∨ n = 5 ∨ n = 6 ∨ n = 7 ∨ n = 8 ∨ n = 9 := by omega
  rcases this with rfl | rfl | rfl | rfl | rfl | rfl | rfl | rfl | rfl | rfl <;> rfl

theorem line_any (a b : Bs) (q : Bool) (w : World) (h : a.length + b.length ≤ 1000000) :
    Calls Tryz.prog 30 #[.string (S a), .string (S b), .bool q] w fun e w' => e = .returned (.string (S (Attr.line ⟨a, b, q⟩))) ∧ w = w' := by
  obtain ⟨R, hR⟩ : ∃ R : ByteArray, R = S (Attr.line ⟨a, b, q⟩) := ⟨_, rfl⟩
  rw [← hR]
  have HR := Lib.hid hR
  clear hR
  have hb : (S a).size + (S b).size ≤ 1000000 := h
  clear h
  cases q
  · go_enter Tryz.func30, Tryz.ntmps30
    go_wp2
    go_ret
    rw [HR.out]
    simp only [Attr.line, Attr.raw]
    rw [show (⟨#[61]⟩ : ByteArray) = S [61] from rfl, S_append, S_append]
    simp
  · go_enter Tryz.func30, Tryz.ntmps30
    go_wp2
    go_ret
    rw [HR.out]
    simp only [Attr.line, Attr.raw]
    rw [show (⟨#[61, 34]⟩ : ByteArray) = S [61, 34] from rfl, show (⟨#[34]⟩ : ByteArray) = S [34] from rfl, S_append, S_append, S_append]
    simp

set_option maxRecDepth 100000 in
theorem dec_any (n : Nat) : ∀ (w : World), n < 18446744073709551616 →
    Calls Tryz.prog 10 #[.int .u64 n] w fun e w' => e = .returned (.string (S (Lib.decDigits n))) ∧ w = w' := by
  induction n using Nat.strongRecOn with
  | _ n ih =>
    intro w hn
    by_cases h : n < 10
    · have h' : (n : Int) < 10 := by omega
      go_enter Tryz.func10, Tryz.ntmps10
      go_wp2
      go_ret
      rw [enc_dig rfl h, Lib.decDigits_one h]
      exact ⟨rfl, rfl⟩
    · have h' : ¬ (n : Int) < 10 := by omega
      go_enter Tryz.func10, Tryz.ntmps10
      have he : Hid (Utf8.encode (48 + (n : Int) % 10) = S [UInt8.ofNat (48 + n % 10)]) := enc_dig (by omega) (by omega)
      have hs2 : (Utf8.encode (48 + (n : Int) % 10)).size ≤ 1 := by rw [he.out]; exact Nat.le_refl _
      have hs1 : (S (Lib.decDigits (n / 10))).size ≤ 100 := Nat.le_trans (dec_length_le (n / 10) 20 (by omega) (by omega)) (by omega)
      have hq : Hid ((n : Int) / 10 = ((n / 10 : Nat) : Int)) := by show _ = _; omega
      go_wp2_with (go_at_call 10; rw [hq.out]; refine (ih (n / 10) (by omega) _ (by omega)).mono ?_; rintro e w' ⟨rfl, rfl⟩)
      go_ret
      rw [he.out, S_append]
      have hd : Lib.decDigits n = Lib.decDigits (n / 10) ++ [UInt8.ofNat (48 + n % 10)] := by rw [Lib.decDigits, dif_neg h]
      rw [hd]
      exact ⟨rfl, rfl⟩

/-- Decimal at a value in whatever spelling. -/
theorem dec_at {z : Int} {n : Nat} (w : World) (h : z = n) (hn : n < 18446744073709551616) :
    Calls Tryz.prog 10 #[.int .u64 z] w fun e w' => e = .returned (.string (S (Lib.decDigits n))) ∧ w = w' := by
  subst h
  exact dec_any n w hn

set_option maxRecDepth 100000 in
theorem seconds_any (n : Nat) (w : World) (hn : n ≤ 1000000) :
    Calls Tryz.prog 31 #[.int .i64 n] w fun e w' => e = .returned (.string (S (seconds n))) ∧ w = w' := by
  have l1 : (S (Lib.decDigits (n / 8))).size ≤ 20 := dec_length_le (n / 8) 20 (by omega) (by omega)
  have l2 : (S (Lib.decDigits (n % 8 * 125 / 100))).size ≤ 20 := dec_length_le (n % 8 * 125 / 100) 20 (by omega) (by omega)
  have l3 : (S (Lib.decDigits (n % 8 * 125 / 10 % 10))).size ≤ 20 := dec_length_le (n % 8 * 125 / 10 % 10) 20 (by omega) (by omega)
  have l4 : (S (Lib.decDigits (n % 8 * 125 % 10))).size ≤ 20 := dec_length_le (n % 8 * 125 % 10) 20 (by omega) (by omega)
  go_enter Tryz.func31, Tryz.ntmps31
  go_wp2_with (go_at_call 10; first | (refine (dec_at (n := n / 8) _ (by omega) (by omega)).mono ?_; rintro e w' ⟨rfl, rfl⟩) | (refine (dec_at (n := n % 8 * 125 / 100) _ (by omega) (by omega)).mono ?_; rintro e w' ⟨rfl, rfl⟩) | (refine (dec_at (n := n % 8 * 125 / 10 % 10) _ (by push_cast; rfl) (by omega)).mono ?_; rintro e w' ⟨rfl, rfl⟩) | (refine (dec_at (n := n % 8 * 125 % 10) _ (by omega) (by omega)).mono ?_; rintro e w' ⟨rfl, rfl⟩))
  go_ret
  rw [show (⟨#[46]⟩ : ByteArray) = S [46] from rfl, S_append, S_append, S_append, S_append]
  refine ⟨?_, rfl⟩
  show Ending.returned (.string _) = _
  simp [seconds]
end Go.Proofs.YtelkphcbopbhoaaGreatDoor
