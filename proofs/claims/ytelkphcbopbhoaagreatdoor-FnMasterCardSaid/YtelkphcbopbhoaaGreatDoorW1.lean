/-
  Walks: the small functions of package m3u8 over texts.
-/
import Derived.Test.YtelkphcbopbhoaaGreatDoorProg
import Derived.Test.YtelkphcbopbhoaaGreatDoorLA
import Derived.WalkKit
import Derived.WalkSpells
import Derived.WalkLawsBesides
import Derived.Deep.LoopGhost
import Derived.Deep.DeepCutAuto
import Derived.Deep.CutBlock
import Derived.Deep.QuietTactic
import Derived.BigQuiet
import Derived.Lib.Hide
namespace Go.Proofs.YtelkphcbopbhoaaGreatDoor
open Go Go.RowKit

theorem ret_bool {a b : Bool} (h : a = b) : Ending.returned (.bool a) = .returned (.bool b) := by rw [h]
theorem ret_int {k : IntKind} {a b : Int} (h : a = b) : Ending.returned (.int k a) = .returned (.int k b) := by rw [h]
theorem ret_str {a b : ByteArray} (h : a = b) : Ending.returned (.string a) = .returned (.string b) := by rw [h]

theorem nmB_int (c : UInt8) : nmB c = (decide (97 ≤ (c.toNat : Int)) && decide ((c.toNat : Int) ≤ 122) || decide (65 ≤ (c.toNat : Int)) && decide ((c.toNat : Int) ≤ 90) || decide (48 ≤ (c.toNat : Int)) && decide ((c.toNat : Int) ≤ 57) || (c.toNat : Int) == 95 || (c.toNat : Int) == 45) := by
  have h : ∀ c : Fin 256, nmB (UInt8.ofNat c.val) = (decide (97 ≤ (c.val : Int)) && decide ((c.val : Int) ≤ 122) || decide (65 ≤ (c.val : Int)) && decide ((c.val : Int) ≤ 90) || decide (48 ≤ (c.val : Int)) && decide ((c.val : Int) ≤ 57) || (c.val : Int) == 95 || (c.val : Int) == 45) := by decide +kernel
  have := h ⟨c.toNat, c.toNat_lt⟩
  simpa using this

set_option maxHeartbeats 400000 in
theorem nameByte_any (c : UInt8) (w : World) :
    Calls Tryz.prog 84 #[.int .u8 (c.toNat : Int)] w fun e w' => e = .returned (.bool (nmB c)) ∧ w = w' := by
  have h1 : (c.toNat : Int) ≤ 255 := by have := c.toNat_lt; omega
  have h0 : 0 ≤ (c.toNat : Int) := by omega
  rw [nmB_int]
  generalize (c.toNat : Int) = x at *
  go_enter Tryz.func84, Tryz.ntmps84
  go_wp2
  all_goals go_ret
  all_goals refine ⟨ret_bool ?_, rfl⟩
  all_goals first | rfl | (rw [Bool.eq_iff_iff]; simp <;> omega)

/-! ### where a run of signs ends -/
theorem tw_lt (p : UInt8 → Bool) (l : Bs) (j : Nat) (h : j < (l.takeWhile p).length) : ∃ h' : j < l.length, p l[j] = true := by
  induction l generalizing j with
  | nil => simp at h
  | cons a r ih =>
    rw [List.takeWhile_cons] at h
    split at h
    · rename_i ha
      cases j with
      | zero => exact ⟨by simp, ha⟩
      | succ j => obtain ⟨h1, h2⟩ := ih j (by simpa using h); exact ⟨by simp; omega, by simpa using h2⟩
    · simp at h
theorem tw_end (p : UInt8 → Bool) (l : Bs) (h : (l.takeWhile p).length < l.length) : p l[(l.takeWhile p).length] = false := by
  induction l with
  | nil => simp at h
  | cons a r ih =>
    by_cases ha : p a = true
    · have e : ((a :: r).takeWhile p) = a :: r.takeWhile p := by simp [ha]
      have h' : (r.takeWhile p).length < r.length := by rw [e] at h; simpa using h
      have := ih h'
      simp only [e, List.length_cons, List.getElem_cons_succ]
      exact this
    · have e : ((a :: r).takeWhile p) = [] := by simp [ha]
      simp only [e, List.length_nil, List.getElem_cons_zero]
      simpa using ha
theorem ba_get (s : ByteArray) (k : Nat) (_h : k < s.size) (h' : k < s.data.toList.length) : s[k] = s.data.toList[k] := by simp; rfl
theorem ba_size (s : ByteArray) : s.data.toList.length = s.size := by rw [Array.length_toList]; rfl

/-- The value's length, by where its run of signs ends. -/
theorem valLen_quote {c : UInt8} {r : Bs} (h : c = 34) : valLen (c :: r) = if (r.takeWhile (fun x => x != 34)).length < r.length ∧ 0 < (r.takeWhile (fun x => x != 34)).length then (r.takeWhile (fun x => x != 34)).length + 2 else 0 := by
  simp [valLen, h]
theorem valLen_plain {c : UInt8} {r : Bs} (h : c ≠ 34) : valLen (c :: r) = ((c :: r).takeWhile (fun x => x != 34 && x != 44)).length := by
  simp only [valLen, if_neg h]

theorem u8_ne {a b : UInt8} (h : a ≠ b) : (a.toNat : Int) ≠ (b.toNat : Int) := fun e => h (UInt8.toNat_inj.1 (by omega))

set_option maxHeartbeats 1000000 in
theorem value_any (s : ByteArray) (w : World) (hs : s.size ≤ 9223372036854775806) :
    Calls Tryz.prog 85 #[.string s] w fun e w' => e = .returned (.int .i64 (valLen s.data.toList)) ∧ w = w' := by
  have hsz := ba_size s
  obtain ⟨R, hR⟩ : ∃ R : Int, R = valLen s.data.toList := ⟨_, rfl⟩
  rw [← hR]
  by_cases hq : ∃ r, s.data.toList = 34 :: r
  · obtain ⟨r, hr⟩ := hq
    have hpos : 0 < s.size := by rw [← hsz, hr]; simp
    have h0 : ((s[0].toNat : Int) == 34) = true := by
      rw [ba_get s 0 hpos (by omega)]; simp [hr]
    have hlen : s.size = r.length + 1 := by rw [← hsz, hr]; simp
    rw [hr, valLen_quote rfl] at hR
    have HR := Lib.hid hR
    clear hR
    have HT : Hid (∀ k (hk : k < s.size), 1 ≤ k → k < 1 + (r.takeWhile (fun x => x != 34)).length → s[k] ≠ 34) := by
      intro k hk h1 h2
      obtain ⟨h3, h4⟩ := tw_lt (fun x => x != 34) r (k - 1) (by omega)
      rw [ba_get s k hk (by omega)]
      have : s.data.toList[k]'(by omega) = r[k - 1] := by
        have e : k = (k - 1) + 1 := by omega
        simp only [hr]
        rw [List.getElem_cons]
        simp [show k ≠ 0 by omega]
      rw [this]
      simpa using h4
    have HE : Hid (∀ (hk : 1 + (r.takeWhile (fun x => x != 34)).length < s.size), s[1 + (r.takeWhile (fun x => x != 34)).length] = 34) := by
      intro hk
      have h4 := tw_end (fun x => x != 34) r (by omega)
      rw [ba_get s _ hk (by omega)]
      have : s.data.toList[1 + (r.takeWhile (fun x => x != 34)).length]'(by omega) = r[(r.takeWhile (fun x => x != 34)).length]'(by omega) := by
        simp only [hr]
        rw [List.getElem_cons]
        simp
      rw [this]
      simpa using h4
    have ht : (r.takeWhile (fun x => x != 34)).length ≤ r.length := length_takeWhile_le _ _
    have hpos' : (0 : Int) < (s.size : Int) := by omega
    generalize (r.takeWhile (fun x => x != 34)).length = t at *
    clear hr hsz
    go_enter Tryz.func85, Tryz.ntmps85
    go_wp2
    go_loop [3] (fun v => ∃ k : Nat, 1 ≤ k ∧ k ≤ 1 + t ∧ v = .int .i64 k) (fun v => s.size - (intOf v).toNat)
    case atStart => exact ⟨1, by omega, by omega, rfl⟩
    case round =>
      obtain ⟨k, hk1, hk2, rfl⟩ := hrel
      by_cases hlt : k < 1 + t
      · have hks : k < s.size := by omega
        have hc := u8_ne (HT.out k hks hk1 hlt)
        have hc' : ((s[k].toNat : Int) != 34) = true := by simpa using hc
        have hks' : (k : Int) < (s.size : Int) := by omega
        go_wp2
        go_round
        case rel => exact ⟨k + 1, by omega, by omega, by go_num⟩
        case measure => simp [intOf]; omega
      · obtain rfl : k = 1 + t := by omega
        by_cases hlt2 : 1 + t < s.size
        · have hc := HE.out hlt2
          have hc' : ((s[1 + t].toNat : Int) != 34) = false := by rw [hc]; rfl
          clear hc
          by_cases ht0 : 0 < t
          · have ht0' : (1 : Int) < ((1 + t : Nat) : Int) := by omega
            go_wp2
            go_ret
            exact ⟨ret_int (by rw [HR.out, if_pos ⟨by omega, ht0⟩]; omega), rfl⟩
          · obtain rfl : t = 0 := by omega
            go_wp2
            go_ret
            exact ⟨ret_int (by rw [HR.out]; simp), rfl⟩
        · have hge : ¬ ((1 + t : Nat) : Int) < (s.size : Int) := by omega
          go_wp2
          go_ret
          exact ⟨ret_int (by rw [HR.out, if_neg (by omega)]; rfl), rfl⟩
  · have HT : Hid (∀ k (hk : k < s.size), k < (s.data.toList.takeWhile (fun x => x != 34 && x != 44)).length → s[k] ≠ 34 ∧ s[k] ≠ 44) := by
      intro k hk h2
      obtain ⟨h3, h4⟩ := tw_lt (fun x => x != 34 && x != 44) s.data.toList k h2
      rw [ba_get s k hk h3]
      simpa using h4
    have HE : Hid (∀ (hk : (s.data.toList.takeWhile (fun x => x != 34 && x != 44)).length < s.size), s[(s.data.toList.takeWhile (fun x => x != 34 && x != 44)).length] = 34 ∨ s[(s.data.toList.takeWhile (fun x => x != 34 && x != 44)).length] = 44) := by
      intro hk
      have h4 := tw_end (fun x => x != 34 && x != 44) s.data.toList (by omega)
      rw [ba_get s _ hk (by omega)]
      simp only [Bool.and_eq_false_iff, bne_eq_false_iff_eq] at h4
      exact h4
    have h0 : ∀ (h : 0 < s.size), s[0] ≠ 34 := by
      intro h e
      rw [ba_get s 0 h (by omega)] at e
      cases hl : s.data.toList with
      | nil => simp only [hl] at hsz; simp at hsz; omega
      | cons c r => simp only [hl] at e; exact hq ⟨r, by rw [hl]; simp at e; rw [e]⟩
    have hv : valLen s.data.toList = (s.data.toList.takeWhile (fun x => x != 34 && x != 44)).length := by
      cases hl : s.data.toList with
      | nil => rfl
      | cons c r => exact valLen_plain (fun e => hq ⟨r, by rw [hl, e]⟩)
    have ht : (s.data.toList.takeWhile (fun x => x != 34 && x != 44)).length ≤ s.size := by have := length_takeWhile_le (fun x => x != 34 && x != 44) s.data.toList; omega
    rw [hv] at hR
    have HR := Lib.hid hR
    clear hR hv hq
    generalize (s.data.toList.takeWhile (fun x => x != 34 && x != 44)).length = t at *
    clear hsz
    have H0 : Hid (∀ (h : 0 < s.size), ((s[0].toNat : Int) == 34) = false) := fun h => by have := u8_ne (h0 h); simpa using this
    clear h0
    by_cases hz : 0 < s.size
    case neg =>
      have hz' : ¬ (0 : Int) < (s.size : Int) := by omega
      have hz2 : ¬ ((0 : Nat) : Int) < (s.size : Int) := by omega
      go_enter Tryz.func85, Tryz.ntmps85
      go_wp2
      go_loop [3] (fun v => v = .int .i64 0) (fun _ => 0)
      case atStart => rfl
      case round =>
        obtain rfl := hrel
        go_wp2
        go_ret
        exact ⟨ret_int (by rw [HR.out]; omega), rfl⟩
    case pos =>
      have hc0 := H0.out hz
      have hz' : (0 : Int) < (s.size : Int) := by omega
      go_enter Tryz.func85, Tryz.ntmps85
      go_wp2
      go_loop [3] (fun v => ∃ k : Nat, k ≤ t ∧ v = .int .i64 k) (fun v => s.size - (intOf v).toNat)
      case atStart => exact ⟨0, by omega, rfl⟩
      case round =>
        obtain ⟨k, hk2, rfl⟩ := hrel
        by_cases hlt : k < t
        · have hks : k < s.size := by omega
          have hc := HT.out k hks hlt
          have hc1 : ((s[k].toNat : Int) != 34) = true := by have := u8_ne hc.1; simpa using this
          have hc2 : ((s[k].toNat : Int) != 44) = true := by have := u8_ne hc.2; simpa using this
          clear hc
          have hks' : (k : Int) < (s.size : Int) := by omega
          go_wp2
          go_round
          case rel => exact ⟨k + 1, by omega, by go_num⟩
          case measure => simp [intOf]; omega
        · obtain rfl : k = t := by omega
          by_cases hlt2 : k < s.size
          · have hks' : (k : Int) < (s.size : Int) := by omega
            rcases HE.out hlt2 with hc | hc
            · have hc1 : ((s[k].toNat : Int) != 34) = false := by rw [hc]; rfl
              clear hc
              go_wp2
              go_ret
              exact ⟨ret_int HR.out.symm, rfl⟩
            · have hc1 : ((s[k].toNat : Int) != 34) = true := by rw [hc]; rfl
              have hc2 : ((s[k].toNat : Int) != 44) = false := by rw [hc]; rfl
              clear hc
              go_wp2
              go_ret
              exact ⟨ret_int HR.out.symm, rfl⟩
          · have hge : ¬ (k : Int) < (s.size : Int) := by omega
            go_wp2
            go_ret
            exact ⟨ret_int HR.out.symm, rfl⟩
end Go.Proofs.YtelkphcbopbhoaaGreatDoor
