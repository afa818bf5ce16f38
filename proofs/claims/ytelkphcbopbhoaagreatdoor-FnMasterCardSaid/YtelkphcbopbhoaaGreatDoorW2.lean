/-
  Walks: zzTrim, zzIndex, zzToken, zzUint64, zzUint8.
-/
import Derived.Test.YtelkphcbopbhoaaGreatDoorW1
import Derived.Test.YtelkphcbopbhoaaGreatDoorShelf
namespace Go.Proofs.YtelkphcbopbhoaaGreatDoor
open Go Go.RowKit

def strLen : Value → Nat | .string s => s.size | _ => 0

theorem blankB_iff (c : UInt8) : blankB c = true ↔ c = 32 ∨ c = 34 := by simp [blankB]

theorem ba_head {t : ByteArray} {c : UInt8} {r : Bs} (h : t.data.toList = c :: r) : ∃ h' : 0 < t.size, t[0] = c := by
  have h' : 0 < t.size := by rw [← ba_size, h]; simp
  exact ⟨h', by rw [ba_get t 0 h' (by rw [h]; simp)]; simp [h]⟩
theorem ba_last {t : ByteArray} {c : UInt8} {r : Bs} (h : t.data.toList = r ++ [c]) : ∃ h' : t.size - 1 < t.size, t[t.size - 1] = c := by
  have hs : t.size = r.length + 1 := by rw [← ba_size, h]; simp
  have h' : t.size - 1 < t.size := by omega
  refine ⟨h', ?_⟩
  rw [ba_get t _ h' (by rw [h]; simp; omega)]
  simp only [h]
  rw [List.getElem_append_right (by omega)]
  simp

set_option maxHeartbeats 1000000 in
theorem trim_any (s : ByteArray) (w : World) (hs : s.size ≤ 9223372036854775806) :
    Calls Tryz.prog 63 #[.string s] w fun e w' => e = .returned (.string ⟨(trimQ s.data.toList).toArray⟩) ∧ w = w' := by
  have hsz := ba_size s
  obtain ⟨R, hR⟩ : ∃ R : ByteArray, R = ⟨(trimQ s.data.toList).toArray⟩ := ⟨_, rfl⟩
  rw [← hR]
  have HR := Lib.hid hR
  clear hR
  go_enter Tryz.func63, Tryz.ntmps63
  go_wp2
  go_loop [0] (fun v => ∃ t : ByteArray, v = .string t ∧ t.size ≤ 9223372036854775806 ∧ Hid (t.data.toList.dropWhile blankB = s.data.toList.dropWhile blankB)) (fun v => strLen v)
  case atStart => exact ⟨s, rfl, hs, rfl⟩
  case round =>
    obtain ⟨t, rfl, ht, HT⟩ := hrel
    by_cases hb : ∃ c r, t.data.toList = c :: r ∧ (c = 32 ∨ c = 34)
    · obtain ⟨c, r, hl, hb⟩ := hb
      obtain ⟨hp, hc⟩ := ba_head hl
      have hd : Hid ((t.extract 1 t.size).data.toList.dropWhile blankB = s.data.toList.dropWhile blankB) := by
        show _ = _
        rw [Lib.extract_to_end, ← HT.out, hl]
        have : blankB c = true := (blankB_iff c).2 hb
        simp [this]
      have hz : (t.extract 1 t.size).size = t.size - 1 := by rw [ByteArray.size_extract]; omega
      have HZ := Lib.hid hz
      have hp' : (0 : Int) < (t.size : Int) := by omega
      clear hl HT hz
      rcases hb with rfl | rfl
      · have h1 : ((t[0].toNat : Int) == 32) = true := by rw [hc]; rfl
        clear hc
        go_wp2
        go_round
        case rel => exact ⟨_, rfl, by rw [HZ.out]; omega, hd⟩
        case measure => simp only [strLen]; rw [HZ.out]; omega
      · have h1 : ((t[0].toNat : Int) == 32) = false := by rw [hc]; rfl
        have h2 : ((t[0].toNat : Int) == 34) = true := by rw [hc]; rfl
        clear hc
        go_wp2
        go_round
        case rel => exact ⟨_, rfl, by rw [HZ.out]; omega, hd⟩
        case measure => simp only [strLen]; rw [HZ.out]; omega
    · have HD : Hid (t.data.toList = s.data.toList.dropWhile blankB) := by
        have : t.data.toList.dropWhile blankB = t.data.toList := dropWhile_none _ _ (fun c hc => by
          cases hl : t.data.toList with
          | nil => rw [hl] at hc; simp at hc
          | cons x r =>
            rw [hl] at hc
            simp at hc
            subst hc
            cases hx : blankB x with
            | false => rfl
            | true => exact absurd ⟨x, r, hl, (blankB_iff x).1 hx⟩ hb)
        exact this.symm.trans HT.out
      have hstop : (¬ (0 : Int) < (t.size : Int)) ∨ ∃ (hp : 0 < t.size), ((t[0].toNat : Int) == 32) = false ∧ ((t[0].toNat : Int) == 34) = false := by
        cases hl : t.data.toList with
        | nil => left; have : t.size = 0 := by rw [← ba_size, hl]; rfl
                 omega
        | cons c r =>
          obtain ⟨hp, hc⟩ := ba_head hl
          right
          refine ⟨hp, ?_, ?_⟩
          · rw [hc]
            have : c ≠ 32 := fun e => hb ⟨c, r, hl, .inl e⟩
            have := u8_ne this
            simpa using this
          · rw [hc]
            have : c ≠ 34 := fun e => hb ⟨c, r, hl, .inr e⟩
            have := u8_ne this
            simpa using this
      clear hb HT
      have HD2 : Hid (((t.data.toList).reverse.dropWhile blankB).reverse = trimQ s.data.toList) := by rw [HD.out]; rfl
      clear HD
      rcases hstop with h0 | ⟨hp, h1, h2⟩
      case' inr =>
        have hp' : (0 : Int) < (t.size : Int) := by omega
      all_goals
        go_wp2
        go_loop [0] (fun v => ∃ t : ByteArray, v = .string t ∧ t.size ≤ 9223372036854775806 ∧ Hid ((t.data.toList.reverse.dropWhile blankB).reverse = trimQ s.data.toList)) (fun v => strLen v)
        case atStart => exact ⟨t, rfl, ht, HD2⟩
        case round =>
          clear HD2 ht
          obtain ⟨u, rfl, hu, HU⟩ := hrel
          by_cases hb : ∃ c r, u.data.toList = r ++ [c] ∧ (c = 32 ∨ c = 34)
          · obtain ⟨c, r, hl, hb⟩ := hb
            obtain ⟨hq, hc⟩ := ba_last hl
            have hus : u.size = r.length + 1 := by rw [← ba_size, hl]; simp
            have hd : Hid (((u.extract 0 (u.size - 1)).data.toList.reverse.dropWhile blankB).reverse = trimQ s.data.toList) := by
              show _ = _
              rw [Lib.extract_data, ← HU.out, hl, hus]
              have : blankB c = true := (blankB_iff c).2 hb
              simp [this]
            have HZ : Hid ((u.extract 0 (u.size - 1)).size = u.size - 1) := by show _ = _; rw [ByteArray.size_extract]; omega
            have hp' : (0 : Int) < (u.size : Int) := by omega
            have hp2 : 0 < u.size := by omega
            clear hl HU hus
            rcases hb with rfl | rfl
            · have h1 : ((u[u.size - 1].toNat : Int) == 32) = true := by rw [hc]; rfl
              clear hc
              go_wp2
              go_round
              case rel => exact ⟨_, rfl, by rw [HZ.out]; omega, hd⟩
              case measure => simp only [strLen]; rw [HZ.out]; omega
            · have h1 : ((u[u.size - 1].toNat : Int) == 32) = false := by rw [hc]; rfl
              have h2 : ((u[u.size - 1].toNat : Int) == 34) = true := by rw [hc]; rfl
              clear hc
              go_wp2
              go_round
              case rel => exact ⟨_, rfl, by rw [HZ.out]; omega, hd⟩
              case measure => simp only [strLen]; rw [HZ.out]; omega
          · have HF : Hid (u = R) := by
              have : u.data.toList.reverse.dropWhile blankB = u.data.toList.reverse := dropWhile_none _ _ (fun c hc => by
                cases hx : blankB c with
                | false => rfl
                | true =>
                  exfalso
                  rw [List.head?_reverse] at hc
                  obtain ⟨r, hr⟩ := List.getLast?_eq_some_iff.1 hc
                  exact hb ⟨c, r, hr, (blankB_iff c).1 hx⟩)
              have h2 := HU.out
              rw [this, List.reverse_reverse] at h2
              show u = R
              rw [HR.out, ← h2]
            have hstop : (¬ (0 : Int) < (u.size : Int)) ∨ ∃ (hq : u.size - 1 < u.size), ((u[u.size - 1].toNat : Int) == 32) = false ∧ ((u[u.size - 1].toNat : Int) == 34) = false := by
              rcases List.eq_nil_or_concat u.data.toList with hl | ⟨r, c, hl⟩
              · left
                have : u.size = 0 := by rw [← ba_size, hl]; rfl
                omega
              · rw [List.concat_eq_append] at hl
                obtain ⟨hq, hc⟩ := ba_last hl
                right
                refine ⟨hq, ?_, ?_⟩
                · rw [hc]
                  have : c ≠ 32 := fun e => hb ⟨c, r, hl, .inl e⟩
                  have := u8_ne this
                  simpa using this
                · rw [hc]
                  have : c ≠ 34 := fun e => hb ⟨c, r, hl, .inr e⟩
                  have := u8_ne this
                  simpa using this
            clear hb HU
            rcases hstop with h0 | ⟨hq, h1, h2⟩
            · go_wp2
              go_ret
              exact ⟨ret_str HF.out, rfl⟩
            · have hp' : (0 : Int) < (u.size : Int) := by omega
              have hp2 : 0 < u.size := by omega
              go_wp2
              go_ret
              exact ⟨ret_str HF.out, rfl⟩

/-- The first place of a sign; -1 of none. -/
def idxC (l : Bs) (c : UInt8) : Int := if (l.takeWhile (fun x => x != c)).length < l.length then ((l.takeWhile (fun x => x != c)).length : Int) else -1

theorem ba_toList (s : ByteArray) : s.toList = s.data.toList := ByteArray.toList_eq s

theorem extract_one (s : ByteArray) (k : Nat) (h : k < s.size) : (s.extract k (k + 1)).data.toList = [s[k]] := by
  rw [Lib.extract_data, ba_get s k h (by rw [ba_size]; exact h)]
  have h' : k < s.data.toList.length := by rw [ba_size]; exact h
  rw [List.drop_eq_getElem_cons h']
  simp

set_option maxHeartbeats 1000000 in
theorem index_any (s p : ByteArray) (c : UInt8) (w : World) (hs : s.size ≤ 9223372036854775806) (hp : Hid (p.data.toList = [c])) :
    Calls Tryz.prog 103 #[.string s, .string p] w fun e w' => e = .returned (.int .i64 (idxC s.data.toList c)) ∧ w = w' := by
  have hsz := ba_size s
  have HP : p.size = 1 := by rw [← ba_size, hp.out]; rfl
  have ht := length_takeWhile_le (fun x => x != c) s.data.toList
  obtain ⟨R, hR⟩ : ∃ R : Int, R = idxC s.data.toList c := ⟨_, rfl⟩
  rw [← hR]
  have HT : Hid (∀ k (hk : k < s.size), k < (s.data.toList.takeWhile (fun x => x != c)).length → s[k] ≠ c) := by
    intro k hk h2
    obtain ⟨h3, h4⟩ := tw_lt (fun x => x != c) s.data.toList k h2
    rw [ba_get s k hk h3]
    simpa using h4
  have HE : Hid (∀ (hk : (s.data.toList.takeWhile (fun x => x != c)).length < s.size), s[(s.data.toList.takeWhile (fun x => x != c)).length] = c) := by
    intro hk
    have h4 := tw_end (fun x => x != c) s.data.toList (by omega)
    rw [ba_get s _ hk (by omega)]
    simpa using h4
  unfold idxC at hR
  have HR := Lib.hid hR
  clear hR
  generalize (s.data.toList.takeWhile (fun x => x != c)).length = t at *
  rw [hsz] at ht
  have hp1 : (p.size : Int) = 1 := by omega
  have HEQ : Hid (∀ k (hk : k < s.size), ((s.extract k (k + 1)).toList == p.toList) = (s[k] == c)) := by
    intro k hk
    rw [ba_toList, ba_toList, extract_one s k hk, hp.out]
    simp
  have HS := Lib.hid hsz
  clear hsz HP
  go_enter Tryz.func103, Tryz.ntmps103
  go_wp2
  go_loop [5] (fun v => ∃ k : Nat, k ≤ t ∧ v = .int .i64 k) (fun v => s.size - (intOf v).toNat)
  case atStart => exact ⟨0, by omega, rfl⟩
  case round =>
    obtain ⟨k, hk, rfl⟩ := hrel
    by_cases hlt : k < t
    · have hks : k < s.size := by omega
      have hks' : (k : Int) + 1 ≤ (s.size : Int) := by omega
      have h1 : ((s.extract k (k + 1)).toList == p.toList) = false := by rw [HEQ.out k hks]; simpa using HT.out k hks hlt
      go_wp2
      go_round
      case rel => exact ⟨k + 1, by omega, by go_num⟩
      case measure => simp [intOf]; omega
    · obtain rfl : k = t := by omega
      by_cases hlt2 : k < s.size
      · have hks' : (k : Int) + 1 ≤ (s.size : Int) := by omega
        have h1 : ((s.extract k (k + 1)).toList == p.toList) = true := by rw [HEQ.out k hlt2]; simpa using HE.out hlt2
        go_wp2
        go_ret
        exact ⟨ret_int (by rw [HR.out, if_pos (by rw [HS.out]; exact hlt2)]), rfl⟩
      · have hge : ¬ (k : Int) + 1 ≤ (s.size : Int) := by omega
        go_wp2
        go_ret
        exact ⟨ret_int (by rw [HR.out, if_neg (by rw [HS.out]; exact hlt2)]), rfl⟩

def digitB (c : UInt8) : Bool := 48 ≤ c && c ≤ 57
theorem digit_find : ∀ c : UInt8, digitB c = true → 0 ≤ idxC [48, 49, 50, 51, 52, 53, 54, 55, 56, 57] c := by
  have h : ∀ c : Fin 256, digitB (UInt8.ofNat c.val) = true → 0 ≤ idxC [48, 49, 50, 51, 52, 53, 54, 55, 56, 57] (UInt8.ofNat c.val) := by decide +kernel
  intro c hc
  have := h ⟨c.toNat, c.toNat_lt⟩
  simp only [UInt8.ofNat_toNat] at this
  exact this hc

set_option maxHeartbeats 1000000 in
/-- A text of digits is a token of digits, whole. -/
theorem token_digits (s : ByteArray) (w : World) (hs : s.size ≤ 9223372036854775806) (hd : Hid (∀ c ∈ s.data.toList, digitB c = true)) :
    Calls Tryz.prog 82 #[.string s, .string ⟨#[48, 49, 50, 51, 52, 53, 54, 55, 56, 57]⟩] w fun e w' => ∃ n, e = .returned (.tuple #[.string s, .string ⟨#[]⟩]) ∧ w' = w.drewN n := by
  have hsz := ba_size s
  have HD : Hid (∀ k (hk : k < s.size), digitB s[k] = true) := by
    intro k hk
    rw [ba_get s k hk (by omega)]
    exact hd.out _ (by simp)
  have HS := Lib.hid hsz
  clear hsz
  go_enter Tryz.func82, Tryz.ntmps82
  go_wp2
  go_loop [0] (fun v => v = .string s) (fun _ => 0)
  case atStart => rfl
  case round =>
    obtain rfl := hrel
    have hstop : (¬ (0 : Int) < (s.size : Int)) ∨ ∃ (hp : 0 < s.size), ((s[0].toNat : Int) == 32) = false ∧ ((s[0].toNat : Int) == 9) = false := by
      by_cases hp : 0 < s.size
      · right
        have h0 := HD.out 0 hp
        simp only [digitB, Bool.and_eq_true, decide_eq_true_eq, UInt8.le_iff_toNat_le] at h0
        have h48 : (48 : UInt8).toNat = 48 := rfl
        refine ⟨hp, ?_, ?_⟩ <;> simp <;> omega
      · left; omega
    rcases hstop with h0 | ⟨hp, h1, h2⟩
    case' inr => have hp' : (0 : Int) < (s.size : Int) := by omega
    all_goals
      go_wp2
      go_loopw [6] (fun v wr => wr = w ∧ ∃ k : Nat, k ≤ s.size ∧ v = .int .i64 k) (fun v _ => s.size - (intOf v).toNat)
      case atStart => exact ⟨rfl, 0, by omega, rfl⟩
      case round =>
        obtain ⟨rfl, k, hk, rfl⟩ := hrel
        by_cases hlt : k < s.size
        · have hks' : (k : Int) < (s.size : Int) := by omega
          have hx := digit_find _ (HD.out k hlt)
          go_wp2_with (go_at_call 103; refine (index_any _ _ s[k] _ (by decide) (Lib.hid (extract_one s k hlt))).mono ?_; rintro e w' ⟨rfl, rfl⟩)
          all_goals
            go_roundw
            case rel => exact ⟨by first | rfl | trivial, k + 1, by omega, by go_num⟩
            case measure => simp [intOf]; omega
        · obtain rfl : k = s.size := by omega
          have hks' : ¬ ((s.size : Nat) : Int) < (s.size : Int) := by omega
          go_wp2
          go_quiet (fail)
          go_wp2
          go_ret2
          exact ⟨_, rfl, rfl⟩

theorem below_bytes (w : World) (e : TypeId) (s : ByteArray) : Below w.heap.size w (Lib.bytesWorld w e s) :=
  ⟨rfl, rfl, rfl, by rw [Lib.bytesWorld_size]; omega, fun i hi => Lib.bytesWorld_at_old w e s i (by omega)⟩
theorem below_drewN' {B : Nat} {w W : World} (h : Below B w W) (n : Nat) : Below B w (W.drewN n) := ⟨h.os, h.tape, h.output, h.size, h.block⟩
theorem below_then' {w w1 w2 : World} (h : Below w.heap.size w w1) (k : Below w1.heap.size w1 w2) : Below w.heap.size w w2 :=
  h.trans ⟨k.os, k.tape, k.output, k.size, fun i hi => k.block i (Nat.lt_of_lt_of_le hi h.size)⟩

set_option maxHeartbeats 1000000 in
theorem uint64_any (s : ByteArray) (old : Int) (u : Nat) (w : World) (hs : s.size ≤ 9223372036854775806) (hd : Hid (∀ c ∈ s.data.toList, digitB c = true)) (hu : Hid (Lib.parseUintB 64 s.data.toList = .ok u)) :
    Calls Tryz.prog 61 #[.string s, .int .u64 old] w fun e w' => e = .returned (.tuple #[.int .u64 u, .nilIface]) ∧ Below w.heap.size w w' := by
  go_enter Tryz.func61, Tryz.ntmps61
  go_wp2_with fail
  refine (token_digits s _ hs hd).mono ?_
  rintro e w1 ⟨n, rfl, rfl⟩
  go_wp2_with fail
  refine (Go.Proofs.Tryz.strconv_ParseUint_10_at64_ok s hs u hu.out _).mono ?_
  rintro e w2 ⟨rfl, hw2⟩
  have hb : Below w.heap.size w w2 := by
    rcases hw2 with rfl | rfl
    · exact below_drewN' (Below.refl _ _) _
    · exact below_then' (below_drewN' (Below.refl _ _) n) (below_bytes _ _ _)
  clear hw2
  go_wp2
  go_ret2
  exact ⟨rfl, hb⟩

set_option maxHeartbeats 1000000 in
theorem uint8_any (s : ByteArray) (old : Int) (u : Nat) (w : World) (hs : s.size ≤ 9223372036854775806) (hd : Hid (∀ c ∈ s.data.toList, digitB c = true)) (hu : Hid (Lib.parseUintB 64 s.data.toList = .ok u)) (h255 : u ≤ 255) :
    Calls Tryz.prog 47 #[.string s, .int .u8 old] w fun e w' => e = .returned (.tuple #[.int .u8 u, .nilIface]) ∧ Below w.heap.size w w' := by
  have h1 : (u : Int) ≤ 255 := by omega
  have h2 : (0 : Int) ≤ (u : Int) := by omega
  go_enter Tryz.func47, Tryz.ntmps47
  go_wp2_with fail
  refine (uint64_any s 0 u _ hs hd hu).mono ?_
  rintro e w1 ⟨rfl, hb⟩
  go_wp2
  go_ret2
  exact ⟨rfl, hb⟩
end Go.Proofs.YtelkphcbopbhoaaGreatDoor
