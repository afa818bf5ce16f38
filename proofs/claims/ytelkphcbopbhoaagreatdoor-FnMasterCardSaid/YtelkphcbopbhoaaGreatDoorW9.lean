/-
  Walks: wordOf, uriOf.
-/
import Derived.Test.YtelkphcbopbhoaaGreatDoorW8
namespace Go.Proofs.YtelkphcbopbhoaaGreatDoor
open Go Go.RowKit

def alpha : ByteArray := { data := #[97, 98, 99, 100, 101, 102, 103, 88, 89, 90, 48, 49, 56, 57, 46, 95, 45, 47, 32, 58] }
theorem enc_ascii (c : UInt8) (h : c.toNat < 128) : Utf8.encode (wrap32 (c.toNat : Int)) = S [c] := by
  have hw : wrap32 (c.toNat : Int) = c.toNat := by unfold wrap32; omega
  rw [hw]
  unfold Utf8.encode
  have hv : Utf8.valid (c.toNat : Int) = true := by simp [Utf8.valid]; omega
  simp [hv, h]
  rfl
theorem alpha_sign : ∀ (i : Fin 20), signB (alpha[i.val]'i.isLt) = true ∧ (alpha[i.val]'i.isLt).toNat < 128 := by decide
theorem enc_alpha (i : Nat) (h : i < 20) : ∃ c, Utf8.encode (wrap32 (({ data := #[97, 98, 99, 100, 101, 102, 103, 88, 89, 90, 48, 49, 56, 57, 46, 95, 45, 47, 32, 58] } : ByteArray)[i]'h).toNat) = S [c] ∧ signB c = true :=
  ⟨_, enc_ascii _ (alpha_sign ⟨i, h⟩).2, (alpha_sign ⟨i, h⟩).1⟩
set_option maxHeartbeats 2000000 in
set_option maxRecDepth 100000 in
theorem word_any (n : Nat) (w : World) (hn : n < 4294967296) :
    Calls Tryz.prog 23 #[.int .u32 n, .int .i64 1] w fun e w' => ∃ t : Bs, e = .returned (.string (S t)) ∧ t.length ≤ 14 ∧ (∀ c ∈ t, signB c = true) ∧ w = w' := by
  go_enter Tryz.func23, Tryz.ntmps23
  go_wp2_with fail
  go_loopw [5, 12] (fun s a wr => Hid (wr = w) ∧ ∃ (k : Nat) (t : Bs), (k : Int) ≤ 1 + (n : Int) % 12 ∧ a = .int .i64 k ∧ s = .string (S t) ∧ t.length = k ∧ Hid (∀ c ∈ t, signB c = true)) (fun _ a _ => 20 - (intOf a).toNat)
  case atStart => exact ⟨rfl, 0, [], by omega, rfl, rfl, rfl, by show ∀ c ∈ [], _; simp⟩
  case round =>
    obtain ⟨hwr, k, t, hk, rfl, rfl, htl, ht⟩ := hrel
    obtain rfl := hwr.out
    by_cases hlt : (k : Int) < 1 + (n : Int) % 12
    · have hs : (S t).size ≤ 100 := by rw [S_size]; omega
      have hsz : (S t).size = k := by rw [S_size]; exact htl
      go_wp2_with fail
      all_goals obtain ⟨c, hc, hcs⟩ := enc_alpha ((n / 8 + k * 7 + n / 2048 * k) % 4294967296 % 20) (by omega)
      all_goals rename_i h1 h2
      · exfalso
        rw [hc] at h2
        have : (S [c]).size = 1 := rfl
        omega
      · refine ⟨⟨trivial, k + 1, t ++ [c], by omega, by go_num, ?_, by simp; omega, ?_⟩, by simp [intOf]; omega⟩
        · rw [hc, S_append]
        · show ∀ x ∈ t ++ [c], _
          intro x hx
          rcases List.mem_append.1 hx with hx | hx
          · exact ht.out x hx
          · simp at hx; subst hx; exact hcs
    · have hk14 : t.length ≤ 12 := by omega
      cases t with
      | nil =>
        have hlen0 : (S ([] : Bs)).size = 0 := rfl
        exfalso
        simp at htl
        omega
      | cons a r =>
        obtain ⟨s, hs⟩ : ∃ s, s = S (a :: r) := ⟨_, rfl⟩
        rw [← hs]
        have hsz : s.size = r.length + 1 := by rw [hs, S_size]; rfl
        have hne : (!s.toList.isEmpty) = true := by rw [hs, empty_is]; simp
        have h0 : 0 < s.size := by omega
        have HS := Lib.hid hs
        clear hs
        have hr14 : r.length ≤ 11 := by simpa using hk14
        go_wp2_with fail
        all_goals go_ret
        all_goals first
          | (refine ⟨a :: r, ?_, by simp; omega, ht.out, rfl⟩; show Ending.returned (.string s) = _; rw [HS.out])
          | (refine ⟨119 :: (a :: r ++ [119]), ?_, by simp; omega, ?_, rfl⟩
             · show Ending.returned (.string _) = _
               rw [HS.out, show (⟨#[119]⟩ : ByteArray) = S [119] from rfl, S_append, S_append]
               rfl
             · intro c hc
               simp only [List.cons_append, List.mem_cons, List.mem_append, List.not_mem_nil, or_false] at hc
               rcases hc with rfl | rfl | hc | rfl
               · rfl
               · exact ht.out _ (by simp)
               · exact ht.out _ (by simp [hc])
               · rfl)

theorem uri_any (n : Nat) (w : World) (hn : n < 4294967296) :
    Calls Tryz.prog 11 #[.int .u32 n] w fun e w' => ∃ t : Bs, e = .returned (.string (S (117 :: (t ++ [46, 116, 115])))) ∧ t.length ≤ 14 ∧ (∀ c ∈ t, signB c = true) ∧ w = w' := by
  go_enter Tryz.func11, Tryz.ntmps11
  go_wp2_with fail
  refine (word_any n w hn).mono ?_
  rintro e w' ⟨t, rfl, ht, hc, rfl⟩
  have hs : (S t).size ≤ 14 := ht
  have HC := Lib.hid hc
  clear hc
  go_wp2
  go_ret
  refine ⟨t, ?_, ht, HC.out, rfl⟩
  rw [show (⟨#[117]⟩ : ByteArray) = S [117] from rfl, show (⟨#[46, 116, 115]⟩ : ByteArray) = S [46, 116, 115] from rfl, S_append, S_append]
  rfl
end Go.Proofs.YtelkphcbopbhoaaGreatDoor
