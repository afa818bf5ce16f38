/-
  Walks: a rate of frames, read: strconv.ParseFloat.
-/
import Derived.Test.YtelkphcbopbhoaaGreatDoorLF
import Derived.Test.YtelkphcbopbhoaaGreatDoorW5
import Derived.WalkMore
namespace Go.Proofs.YtelkphcbopbhoaaGreatDoor
open Go Go.RowKit

theorem special_any (s : ByteArray) (w : World) (hp : 0 < s.size) (hb : s.size ≤ 100) (h0 : 48 ≤ (s[0].toNat : Int)) (h1 : (s[0].toNat : Int) ≤ 57) :
    Calls Tryz.prog 120 #[.string s] w fun e w' => e = .returned (.tuple #[.float .f64 0, .int .i64 0, .bool false]) ∧ w = w' := by
  have hp' : (0 : Int) < (s.size : Int) := by omega
  have e1 : ((s.size : Int) == 0) = false := beq_eq_false_iff_ne.2 (by omega)
  have e2 : ((s[0].toNat : Int) == 43) = false := beq_eq_false_iff_ne.2 (by omega)
  have e3 : ((s[0].toNat : Int) == 45) = false := beq_eq_false_iff_ne.2 (by omega)
  have e4 : ((s[0].toNat : Int) == 105) = false := beq_eq_false_iff_ne.2 (by omega)
  have e5 : ((s[0].toNat : Int) == 73) = false := beq_eq_false_iff_ne.2 (by omega)
  have e6 : ((s[0].toNat : Int) == 110) = false := beq_eq_false_iff_ne.2 (by omega)
  have e7 : ((s[0].toNat : Int) == 78) = false := beq_eq_false_iff_ne.2 (by omega)
  go_enter Tryz.func120, Tryz.ntmps120
  go_wp2
  go_ret3
  exact ⟨rfl, rfl⟩

/-- The digits ahead of a place. -/
def pre (l : Bs) (i : Nat) : Bs := (l.take i).filter (fun c => c != 46)
theorem pre_dot (l : Bs) (i : Nat) (h : i < l.length) (hd : l[i] = 46) : pre l (i + 1) = pre l i := by
  unfold pre
  rw [List.take_succ_eq_append_getElem h, List.filter_append, hd]
  simp
theorem pre_dig (l : Bs) (i : Nat) (h : i < l.length) (hd : l[i] ≠ 46) : pre l (i + 1) = pre l i ++ [l[i]] := by
  unfold pre
  rw [List.take_succ_eq_append_getElem h, List.filter_append]
  simp [hd]
theorem val_bound (l : Bs) (i : Nat) (hl : l.length ≤ 10) (hd : ∀ c ∈ l, c ≠ 46 → 48 ≤ c ∧ c ≤ 57) : val (pre l i) ≤ 10000000000 := by
  have h1 : (pre l i).length ≤ 10 := by
    unfold pre
    have := List.length_filter_le (fun c : UInt8 => c != 46) (l.take i)
    have := List.length_take_le i l
    have : (l.take i).length ≤ l.length := by rw [List.length_take]; omega
    omega
  have h2 := val_lt (pre l i) (fun c hc => by
    obtain ⟨h3, h4⟩ := List.mem_filter.1 hc
    exact hd c (List.mem_of_mem_take h3) (by simpa using h4))
  have h3 : 10 ^ (pre l i).length ≤ 10 ^ 10 := Nat.pow_le_pow_right (by omega) h1
  omega

theorem or_x : ∀ c : UInt8, 46 ≤ c.toNat → c.toNat ≤ 57 → (bits BinOp.or .u8 (c.toNat : Int) 32 == 120) = false := by
  have h : ∀ c : Fin 256, 46 ≤ c.val → c.val ≤ 57 → (bits BinOp.or .u8 (c.val : Int) 32 == 120) = false := by decide +kernel
  intro c h1 h2
  exact h ⟨c.toNat, c.toNat_lt⟩ h1 h2

set_option maxRecDepth 100000 in
set_option maxHeartbeats 4000000 in
theorem readFloat_any (s : ByteArray) (l : Bs) (k : Nat) (w : World) (hs : Hid (s.data.toList = l)) (hk : 1 ≤ k) (hkl : Hid (k + 4 = l.length)) (hlen : s.size ≤ 10) (hd : Hid (∀ c ∈ l, c ≠ 46 → 48 ≤ c ∧ c ≤ 57))
    (hdig : Hid (∀ i (h : i < l.length), i ≠ k → 48 ≤ l[i].toNat ∧ l[i].toNat ≤ 57)) (hdot : Hid (∀ h : k < l.length, l[k] = 46)) (V : Nat) (hV : Hid (val (pre l l.length) = V)) (hpos : 0 < V) (hVb : V ≤ 10000000000) :
    Calls Tryz.prog 121 #[.string s] w fun e w' => e = .returned (.tuple #[.int .u64 V, .int .i64 (-3), .bool false, .bool false, .bool false, .int .i64 s.size, .bool true]) ∧ w = w' := by
  have hsz : Hid (s.size = l.length) := by show _ = _; rw [← hs.out, ba_size]
  have hget : Hid (∀ i (h : i < s.size) (h' : i < l.length), s[i] = l[i]) := by
    intro i h h'
    rw [ba_get s i h (by rw [ba_size]; exact h)]
    exact List.getElem_of_eq hs.out _
  have hks : k < s.size := by rw [hsz.out]; have := hkl.out; omega
  have hp : 0 < s.size := by omega
  have hp' : (0 : Int) < (s.size : Int) := by omega
  have hp2 : (2 : Int) < (s.size : Int) := by have := hkl.out; have := hsz.out; omega
  have hp1 : 1 < s.size := by omega
  have c0 : 48 ≤ (s[0].toNat : Int) ∧ (s[0].toNat : Int) ≤ 57 := by
    have h' : 0 < l.length := by rw [← hsz.out]; exact hp
    rw [hget.out 0 hp h']
    have := hdig.out 0 h' (by omega)
    omega
  have c00 := c0.1
  have c01 := c0.2
  have e1 : ((s[0].toNat : Int) == 43) = false := beq_eq_false_iff_ne.2 (by omega)
  have e2 : ((s[0].toNat : Int) == 45) = false := beq_eq_false_iff_ne.2 (by omega)
  clear c0
  have e3 : (bits BinOp.or .u8 (s[1].toNat : Int) 32 == 120) = false := by
    have h' : 1 < l.length := by rw [← hsz.out]; exact hp1
    rw [hget.out 1 hp1 h']
    by_cases h1 : 1 = k
    · subst h1
      rw [hdot.out h']
      exact or_x 46 (by decide) (by decide)
    · have := hdig.out 1 h' h1
      exact or_x _ (by omega) (by omega)
  have hp1' : (1 : Int) < (s.size : Int) := by omega
  have hne : ¬ s = ByteArray.empty := by
    intro e
    rw [e] at hp
    exact absurd hp (by decide)
  cases e48 : ((s[0].toNat : Int) == 48)
  all_goals
    go_enter Tryz.func121, Tryz.ntmps121
    go_wp2_with (go_at_call 114; refine (Tryz.internal_strconv_lower _ _).mono ?_; rintro e w' ⟨rfl, rfl⟩)
    go_step3
    go_wp2_with (go_at_call 114; refine (Tryz.internal_strconv_lower _ _).mono ?_; rintro e w' ⟨rfl, rfl⟩)
    go_step3
    go_wp2
    go_loop [2, 5, 7, 9, 13, 14, 15, 16, 17] (fun mant tr i un dot dig nd ndm dp => ∃ (j n : Nat) (p : Int) (b d : Bool), j ≤ s.size ∧ mant = .int .u64 (val (pre l j)) ∧ tr = .bool false ∧ i = .int .i64 j ∧ un = .bool false ∧ dot = .bool b ∧ dig = .bool d ∧ nd = .int .i64 n ∧ ndm = .int .i64 n ∧ dp = .int .i64 p ∧ n ≤ j ∧ -(j : Int) ≤ p ∧ p ≤ j ∧ Hid (b = decide (k < j)) ∧ Hid (d = decide (0 < j)) ∧ Hid (n = 0 → val (pre l j) = 0) ∧ Hid (k < j → p = n - (j - 1 - k))) (fun _ _ i _ _ _ _ _ _ => s.size - (intOf i).toNat)
    case atStart => exact ⟨0, 0, 0, false, false, by omega, rfl, rfl, rfl, rfl, rfl, rfl, rfl, rfl, rfl, by omega, by omega, by omega, rfl, rfl, fun _ => rfl, fun h => by omega⟩
    case round =>
      obtain ⟨j, n, p, b, d, hj, rfl, rfl, rfl, rfl, rfl, rfl, rfl, rfl, rfl, hnj, hpl, hpu, HB, HDg, HN, HP⟩ := hrel
      have hm1 := val_bound l j (by rw [← hsz.out]; exact hlen) hd.out
      obtain ⟨m, hm⟩ : ∃ m, m = val (pre l j) := ⟨_, rfl⟩
      rw [← hm] at hm1 HN ⊢
      have HM := Lib.hid hm
      clear hm
      by_cases hlt : j < s.size
      · have hlt' : (j : Int) < (s.size : Int) := by omega
        have hjl : j < l.length := by rw [← hsz.out]; exact hlt
        have hg := hget.out j hlt hjl
        by_cases hjk : j = k
        · have h46 : s[j].toNat = 46 := by subst hjk; rw [hg, hdot.out hjl]; rfl
          have hb : b = false := by rw [HB.out]; simp; omega
          subst hb
          have t1 : ((s[j].toNat : Int) == 95) = false := beq_eq_false_iff_ne.2 (by omega)
          have t2 : ((s[j].toNat : Int) == 46) = true := by rw [h46]; rfl
          have hv : Hid (val (pre l (j + 1)) = m) := by
            show _ = _
            rw [pre_dot l j hjl (by rw [← hg]; exact UInt8.toNat_inj.1 h46), ← HM.out]
          have hkj : Hid (j = k) := hjk
          clear hg h46 hjk
          go_wp2
          go_round
          case rel => exact ⟨j + 1, n, n, true, d, by omega, by rw [hv.out], rfl, by go_num, rfl, rfl, rfl, rfl, rfl, rfl, by omega, by omega, by omega, by show true = _; have := hkj.out; simp; omega, by have := hkj.out; rw [show d = decide (0 < j) from HDg.out]; show decide (0 < j) = decide (0 < j + 1); simp; omega, by show n = 0 → _; rw [hv.out]; exact HN.out, by intro _; have := hkj.out; omega⟩
          case measure => simp [intOf]; omega
        · have hdj := hdig.out j hjl hjk
          rw [← hg] at hdj
          have hne46 : l[j] ≠ 46 := by
            intro e
            rw [hg, e] at hdj
            have h : (46 : UInt8).toNat = 46 := rfl
            omega
          have hv : Hid (val (pre l (j + 1)) = m * 10 + (s[j].toNat - 48)) := by
            show _ = _
            rw [pre_dig l j hjl hne46, val_snoc, ← HM.out, hg]
          have t1 : ((s[j].toNat : Int) == 95) = false := beq_eq_false_iff_ne.2 (by omega)
          have t2 : ((s[j].toNat : Int) == 46) = false := beq_eq_false_iff_ne.2 (by omega)
          have t3 : (48 : Int) ≤ (s[j].toNat : Int) := by omega
          have t4 : (s[j].toNat : Int) ≤ 57 := by omega
          have hkj : Hid (j ≠ k) := hjk
          clear hg hjk hne46 hdj
          by_cases h48 : (s[j].toNat : Int) = 48
          · have t5 : ((s[j].toNat : Int) == 48) = true := by rw [h48]; rfl
            have h48' := Lib.hid h48
            clear h48
            by_cases hn0 : n = 0
            · subst hn0
              have hv2 : Hid (val (pre l (j + 1)) = m) := by
                show _ = _
                have h1 := HN.out rfl
                have h2 := h48'.out
                rw [hv.out, h1]
                omega
              go_wp2
              go_round
              case rel => exact ⟨j + 1, 0, p - 1, b, true, by omega, by rw [hv2.out], rfl, by go_num, rfl, rfl, rfl, rfl, rfl, rfl, by omega, by omega, by omega, by show b = _; rw [HB.out]; have := hkj.out; simp; omega, by show true = _; simp, fun _ => by rw [hv2.out]; exact HN.out rfl, by intro h; have := hkj.out; have := HP.out (by omega); omega⟩
              case measure => simp [intOf]; omega
            · have t6 : ((n : Int) == 0) = false := beq_eq_false_iff_ne.2 (by omega)
              go_wp2
              go_round
              case rel => exact ⟨j + 1, n + 1, p, b, true, by omega, by rw [hv.out]; congr 1; omega, rfl, by go_num, rfl, rfl, rfl, by go_num, by go_num, rfl, by omega, by omega, by omega, by show b = _; rw [HB.out]; have := hkj.out; simp; omega, by show true = _; simp, fun h => by omega, by intro h; have := hkj.out; have := HP.out (by omega); omega⟩
              case measure => simp [intOf]; omega
          · have t5 : ((s[j].toNat : Int) == 48) = false := beq_eq_false_iff_ne.2 h48
            have h48' := Lib.hid h48
            clear h48
            go_wp2
            go_round
            case rel => exact ⟨j + 1, n + 1, p, b, true, by omega, by rw [hv.out]; congr 1; omega, rfl, by go_num, rfl, rfl, rfl, by go_num, by go_num, rfl, by omega, by omega, by omega, by show b = _; rw [HB.out]; have := hkj.out; simp; omega, by show true = _; simp, fun h => by omega, by intro h; have := hkj.out; have := HP.out (by omega); omega⟩
            case measure => simp [intOf]; omega
      · obtain rfl : j = s.size := by omega
        have hlt' : ¬ ((s.size : Nat) : Int) < (s.size : Int) := by omega
        have hb : b = true := by rw [HB.out]; simp; omega
        have hd2 : d = true := by rw [HDg.out]; simp; omega
        subst hb hd2
        have hmV : m = V := by rw [HM.out, ← hV.out, hsz.out]
        subst hmV
        have hm0 : ((m : Int) == 0) = false := beq_eq_false_iff_ne.2 (by omega)
        have hp3 : Hid (p - n = -3) := by show _ = _; have h1 := HP.out hks; have h2 := hkl.out; have h3 := hsz.out; omega
        go_wp2
        rw [hp3.out]
        exact bodyPost_ret (v := .tuple #[.int .u64 m, .int .i64 (-3), .bool false, .bool false, .bool false, .int .i64 s.size, .bool true]) (by simp [results, Tryz.results121, go_sem]) rfl ⟨rfl, rfl⟩

/-- What of the world the reading of numbers asks. -/
structure FEnv (w : World) : Prop where
  opt : w.cell? ⟨13, 0, none⟩ = some (.bool true)
  info : w.cell? ⟨14, 0, none⟩ = some (.int .u64 52)
  pow : ∃ g o c, w.cell? ⟨17, 0, none⟩ = some (.slice (some ⟨g, o, none⟩) 23 c) ∧ w.cell? ⟨g, o + 3, none⟩ = some (.float .f64 4652007308841189376)

set_option maxRecDepth 100000 in
theorem exact_any (n : Nat) (w : World) (h1 : 1 ≤ n) (h2 : n ≤ 1000) (hE : FEnv w) :
    Calls Tryz.prog 131 #[.int .u64 ((n * 125 : Nat) : Int), .int .i64 (-3), .bool false] w fun e w' => e = .returned (.tuple #[.float .f64 (rateW n), .bool true]) ∧ w = w' := by
  obtain ⟨g, o, c, hp, hc⟩ := hE.pow
  have hi := hE.info
  obtain ⟨m, hm⟩ : ∃ m, m = n * 125 := ⟨_, rfl⟩
  have hd := rate_div n h2
  rw [← hm] at hd ⊢
  have hm1 : (m : Int) ≤ 125000 := by omega
  have hm0 : (0 : Int) ≤ (m : Int) := by omega
  have hf := fun w => run_float_arith (P := Tryz.prog) w .quo 60 .f64 _ _ _ (show floatBits .quo .f64 _ _ = some (rateW n) from hd)
  clear hd hm h2 h1 hE
  go_enter Tryz.func131, Tryz.ntmps131
  go_wp2
  go_ret2
  exact ⟨rfl, rfl⟩

theorem bool2_any (w : World) : Calls Tryz.prog 129 #[.bool false] w fun e w' => e = .returned (.int .u64 0) ∧ w = w' := by
  go_enter Tryz.func129, Tryz.ntmps129
  go_wp2
  go_ret
  exact ⟨rfl, rfl⟩

set_option maxRecDepth 100000 in
set_option maxHeartbeats 1000000 in
theorem atof_any (n : Nat) (w : World) (h1 : 1 ≤ n) (h2 : n ≤ 1000) (hE : FEnv w) :
    Calls Tryz.prog 112 #[.string (S (seconds n))] w fun e w' => e = .returned (.tuple #[.float .f64 (rateW n), .int .i64 (seconds n).length, .nilIface]) ∧ w = w' := by
  obtain ⟨s, hs⟩ : ∃ s, s = S (seconds n) := ⟨_, rfl⟩
  rw [← hs]
  have hl : Hid (s.data.toList = seconds n) := by show _ = _; rw [hs]; rfl
  have hsz : s.size = (seconds n).length := by rw [hs]; rfl
  have HS := Lib.hid hs
  clear hs
  have hD := rateD_len n h2
  have hlen : (seconds n).length = (rateD n).length + 4 := by rw [seconds_parts, List.length_append, List.length_cons, rateF_len]
  have hget : ∀ i (h : i < s.size) (h' : i < (seconds n).length), s[i] = (seconds n)[i] := by
    intro i h h'
    rw [ba_get s i h (by rw [ba_size]; exact h)]
    exact List.getElem_of_eq hl.out _
  have hp : 0 < s.size := by omega
  have hdig : Hid (∀ i (h : i < (seconds n).length), i ≠ (rateD n).length → 48 ≤ (seconds n)[i].toNat ∧ (seconds n)[i].toNat ≤ 57) := by
    intro i h hne
    have hx : ∀ c, (48 : UInt8) ≤ c ∧ c ≤ 57 → 48 ≤ c.toNat ∧ c.toNat ≤ 57 := fun c hc => by
      rw [UInt8.le_iff_toNat_le, UInt8.le_iff_toNat_le] at hc
      exact hc
    apply hx
    rcases Nat.lt_or_ge i (rateD n).length with h3 | h3
    · have e : (seconds n)[i] = (rateD n)[i] := by
        have := List.getElem_of_eq (seconds_parts n) h
        rw [this, List.getElem_append_left h3]
      rw [e]
      exact rateD_digit n _ (List.getElem_mem h3)
    · have h4 : i - (rateD n).length - 1 < (rateF n).length := by rw [rateF_len]; omega
      have e : (seconds n)[i] = (rateF n)[i - (rateD n).length - 1] := by
        have := List.getElem_of_eq (seconds_parts n) h
        rw [this, List.getElem_append_right h3, List.getElem_cons, dif_neg (by omega)]
      rw [e]
      exact rateF_digit n _ (List.getElem_mem h4)
  have hdot : Hid (∀ h : (rateD n).length < (seconds n).length, (seconds n)[(rateD n).length] = 46) := by
    intro h
    have := List.getElem_of_eq (seconds_parts n) h
    rw [this, List.getElem_append_right (Nat.le_refl _)]
    simp
  have hd : Hid (∀ c ∈ seconds n, c ≠ 46 → 48 ≤ c ∧ c ≤ 57) := by
    intro c hc hne
    rw [seconds_parts] at hc
    rcases List.mem_append.1 hc with h | h
    · exact rateD_digit n c h
    · rcases List.mem_cons.1 h with h | h
      · exact absurd h hne
      · exact rateF_digit n c h
  have hne : ∀ c ∈ rateD n ++ rateF n, (c != 46) = true := by
    intro c hc
    have hx : 48 ≤ c := by
      rcases List.mem_append.1 hc with h | h
      · exact (rateD_digit n c h).1
      · exact (rateF_digit n c h).1
    rw [bne_iff_ne]
    rintro rfl
    revert hx
    decide
  have hV : Hid (val (pre (seconds n) (seconds n).length) = n * 125) := by
    show _ = _
    unfold pre
    rw [List.take_length, ← rate_val n]
    congr 1
    rw [seconds_parts, List.filter_append, List.filter_cons, if_neg (by decide), ← List.filter_append]
    exact List.filter_eq_self.2 hne
  have c0 : 48 ≤ (s[0].toNat : Int) ∧ (s[0].toNat : Int) ≤ 57 := by
    rw [hget 0 hp (by omega)]
    have := hdig.out 0 (by omega) (by omega)
    omega
  have hrf := fun w => readFloat_any s (seconds n) (rateD n).length w hl hD.1 hlen.symm (by omega) hd hdig hdot (n * 125) hV (by omega) (by omega)
  have c00 := c0.1
  have c01 := c0.2
  have hsm : s.size ≤ 100 := by omega
  have HSZ := Lib.hid hsz
  have hopt := hE.opt
  have hm0 : (((n * 125 : Nat) : Int) == 0) = false := beq_eq_false_iff_ne.2 (by omega)
  have HE := Lib.hid hE
  have HRF := Lib.hid hrf
  have HN := Lib.hid (And.intro h1 h2)
  clear c0 hrf hsz hlen hD hget hne hE h1 h2
  rw [← HSZ.out]
  go_enter Tryz.func112, Tryz.ntmps112
  go_wp2_with (first
    | (go_at_call 120; refine (special_any s _ hp hsm c00 c01).mono ?_; rintro e w' ⟨rfl, rfl⟩)
    | (go_at_call 121; refine (HRF.out _).mono ?_; rintro e w' ⟨rfl, rfl⟩)
    | (go_at_call 129; refine (bool2_any _).mono ?_; rintro e w' ⟨rfl, rfl⟩)
    | (go_at_call 131; refine (exact_any n _ HN.out.1 HN.out.2 HE.out).mono ?_; rintro e w' ⟨rfl, rfl⟩))
  go_ret3
  exact ⟨rfl, rfl⟩

theorem prefix_any (n : Nat) (w : World) (h1 : 1 ≤ n) (h2 : n ≤ 1000) (hE : FEnv w) :
    Calls Tryz.prog 97 #[.string (S (seconds n)), .int .i64 64] w fun e w' => e = .returned (.tuple #[.float .f64 (rateW n), .int .i64 (seconds n).length, .nilIface]) ∧ w = w' := by
  have HE := Lib.hid hE
  clear hE
  go_enter Tryz.func97, Tryz.ntmps97
  go_wp2_with (go_at_call 112; refine (atof_any n _ h1 h2 HE.out).mono ?_; rintro e w' ⟨rfl, rfl⟩)
  go_ret3
  exact ⟨rfl, rfl⟩
theorem parseF_any (n : Nat) (w : World) (h1 : 1 ≤ n) (h2 : n ≤ 1000) (hE : FEnv w) :
    Calls Tryz.prog 72 #[.string (S (seconds n)), .int .i64 64] w fun e w' => e = .returned (.tuple #[.float .f64 (rateW n), .nilIface]) ∧ w = w' := by
  have HE := Lib.hid hE
  clear hE
  have hsz : (S (seconds n)).size = (seconds n).length := rfl
  go_enter Tryz.func72, Tryz.ntmps72
  go_wp2_with (go_at_call 97; refine (prefix_any n _ h1 h2 HE.out).mono ?_; rintro e w' ⟨rfl, rfl⟩)
  go_ret2
  exact ⟨rfl, rfl⟩
/-- strconv.ParseFloat, at a rate's text. -/
theorem parseFloat_any (n : Nat) (w : World) (h1 : 1 ≤ n) (h2 : n ≤ 1000) (hE : FEnv w) :
    Calls Tryz.prog 52 #[.string (S (seconds n)), .int .i64 64] w fun e w' => e = .returned (.tuple #[.float .f64 (rateW n), .nilIface]) ∧ w = w' := by
  have HE := Lib.hid hE
  clear hE
  go_enter Tryz.func52, Tryz.ntmps52
  go_wp2_with (go_at_call 72; refine (parseF_any n _ h1 h2 HE.out).mono ?_; rintro e w' ⟨rfl, rfl⟩)
  go_ret2
  exact ⟨rfl, rfl⟩
end Go.Proofs.YtelkphcbopbhoaaGreatDoor
