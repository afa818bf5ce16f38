/-
  Plain Lean: rates of frames: their texts, and the words of floating-point numbers that stand for them.
-/
import Derived.Test.YtelkphcbopbhoaaGreatDoorLA
import Derived.Laws.Cover2
import Derived.Laws.FloatArith
namespace Go.Proofs.YtelkphcbopbhoaaGreatDoor
open Go Go.Lib

/-- The number of a text of digits. -/
def val (l : Bs) : Nat := l.foldl (fun a c => a * 10 + (c.toNat - 48)) 0
theorem val_snoc (l : Bs) (c : UInt8) : val (l ++ [c]) = val l * 10 + (c.toNat - 48) := by simp [val]
theorem val_dec (n : Nat) : val (decDigits n) = n := by
  induction n using Nat.strongRecOn with
  | _ n ih =>
    rw [decDigits]
    split
    · rename_i hn
      have : (UInt8.ofNat (48 + n)).toNat = 48 + n := by simp; omega
      simp only [val, List.foldl_cons, List.foldl_nil, this]
      omega
    · rename_i hn
      have : (UInt8.ofNat (48 + n % 10)).toNat = 48 + n % 10 := by simp; omega
      rw [val_snoc, ih (n / 10) (by omega), this]
      omega
theorem val_acc (l : Bs) (h : ∀ c ∈ l, 48 ≤ c ∧ c ≤ 57) : ∀ acc : Nat, l.foldl (fun a c => a * 10 + (c.toNat - 48)) acc < (acc + 1) * 10 ^ l.length := by
  induction l with
  | nil => intro acc; simp
  | cons c l ih =>
    intro acc
    have h2 := h c (by simp)
    rw [UInt8.le_iff_toNat_le, UInt8.le_iff_toNat_le] at h2
    have h48 : (48 : UInt8).toNat = 48 := rfl
    have h57 : (57 : UInt8).toNat = 57 := rfl
    have := ih (fun x hx => h x (by simp [hx])) (acc * 10 + (c.toNat - 48))
    simp only [List.foldl_cons, List.length_cons, Nat.pow_succ]
    refine Nat.lt_of_lt_of_le this ?_
    have h3 : acc * 10 + (c.toNat - 48) + 1 ≤ (acc + 1) * 10 := by omega
    calc (acc * 10 + (c.toNat - 48) + 1) * 10 ^ l.length ≤ ((acc + 1) * 10) * 10 ^ l.length := Nat.mul_le_mul_right _ h3
      _ = (acc + 1) * (10 ^ l.length * 10) := by rw [Nat.mul_assoc, Nat.mul_comm 10]
theorem val_lt (l : Bs) (h : ∀ c ∈ l, 48 ≤ c ∧ c ≤ 57) : val l < 10 ^ l.length := by
  have := val_acc l h 0
  simpa [val] using this

def rateD (n : Nat) : Bs := decDigits (n / 8)
def rateF (n : Nat) : Bs := decDigits (n % 8 * 125 / 100) ++ decDigits (n % 8 * 125 / 10 % 10) ++ decDigits (n % 8 * 125 % 10)
theorem seconds_parts (n : Nat) : seconds n = rateD n ++ 46 :: rateF n := rfl
theorem rateF_is (n : Nat) : rateF n = [UInt8.ofNat (48 + n % 8 * 125 / 100), UInt8.ofNat (48 + n % 8 * 125 / 10 % 10), UInt8.ofNat (48 + n % 8 * 125 % 10)] := by
  unfold rateF
  rw [decDigits_one (by omega), decDigits_one (by omega), decDigits_one (by omega)]
  rfl
theorem rateF_len (n : Nat) : (rateF n).length = 3 := by rw [rateF_is]; rfl
theorem rate_val (n : Nat) : val (rateD n ++ rateF n) = n * 125 := by
  have e : rateD n ++ rateF n = ((rateD n ++ [UInt8.ofNat (48 + n % 8 * 125 / 100)]) ++ [UInt8.ofNat (48 + n % 8 * 125 / 10 % 10)]) ++ [UInt8.ofNat (48 + n % 8 * 125 % 10)] := by rw [rateF_is]; simp
  have e1 : (UInt8.ofNat (48 + n % 8 * 125 / 100)).toNat = 48 + n % 8 * 125 / 100 := by simp; omega
  have e2 : (UInt8.ofNat (48 + n % 8 * 125 / 10 % 10)).toNat = 48 + n % 8 * 125 / 10 % 10 := by simp; omega
  have e3 : (UInt8.ofNat (48 + n % 8 * 125 % 10)).toNat = 48 + n % 8 * 125 % 10 := by simp; omega
  rw [e, val_snoc, val_snoc, val_snoc, rateD, val_dec, e1, e2, e3]
  omega
theorem rateD_digit (n : Nat) : ∀ c ∈ rateD n, 48 ≤ c ∧ c ≤ 57 := dec_digit _
theorem rateF_digit (n : Nat) : ∀ c ∈ rateF n, 48 ≤ c ∧ c ≤ 57 := by
  intro c hc
  simp only [rateF, List.mem_append] at hc
  rcases hc with (h | h) | h
  · exact dec_digit _ c h
  · exact dec_digit _ c h
  · exact dec_digit _ c h
theorem rateD_len (n : Nat) (h : n ≤ 1000) : 1 ≤ (rateD n).length ∧ (rateD n).length ≤ 3 := by
  refine ⟨List.length_pos_iff.2 (dec_ne _), dec_length_le _ 3 (by omega) (by omega)⟩

/-- The word of a rate of n eighths. -/
def rateW (n : Nat) : Nat := (Ieee.double.div (floatOfInt .f64 ((n * 125 : Nat) : Int)) 4652007308841189376).getD 0
/-- All rates, by reckoning. -/
theorem rate_all : ∀ n : Fin 1001, Ieee.double.div (floatOfInt .f64 ((n.val * 125 : Nat) : Int)) 4652007308841189376 = some (rateW n.val) ∧
    (Ieee.double.mul (rateW n.val) 4620693217682128896).bind (fun r => Ieee.double.order r (floatOfInt .f64 (n.val : Int))) = some .eq := by decide +kernel
theorem rate_div (n : Nat) (h : n ≤ 1000) : Ieee.double.div (floatOfInt .f64 ((n * 125 : Nat) : Int)) 4652007308841189376 = some (rateW n) := (rate_all ⟨n, by omega⟩).1
theorem rate_mul (n : Nat) (h : n ≤ 1000) : ∃ r, Ieee.double.mul (rateW n) 4620693217682128896 = some r ∧ Ieee.double.order r (floatOfInt .f64 (n : Int)) = some .eq := by
  have := (rate_all ⟨n, by omega⟩).2
  cases hm : Ieee.double.mul (rateW n) 4620693217682128896 with
  | none => simp only [hm] at this; cases this
  | some r => simp only [hm] at this; exact ⟨r, rfl, this⟩
theorem rateW_zero : rateW 0 = 0 := by decide +kernel
end Go.Proofs.YtelkphcbopbhoaaGreatDoor
