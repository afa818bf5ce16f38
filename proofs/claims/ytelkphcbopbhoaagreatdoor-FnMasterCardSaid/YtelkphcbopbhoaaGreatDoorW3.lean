/-
  Walks: reKeyValue, decodeParamsLine.
-/
import Derived.Test.YtelkphcbopbhoaaGreatDoorW2
import Derived.StillTailTactics
import Derived.Deep.AppendLies
import Derived.Deep.RegionLaw
import Derived.Maps.RangeWalk
import Derived.Maps.StringElems
namespace Go.Proofs.YtelkphcbopbhoaaGreatDoor
open Go Go.RowKit

def S (l : Bs) : ByteArray := ⟨l.toArray⟩
theorem S_list (l : Bs) : (S l).data.toList = l := rfl
theorem S_of {s : ByteArray} {l : Bs} (h : s.data.toList = l) : s = S l := by
  subst h
  obtain ⟨⟨d⟩⟩ := s
  rfl
theorem S_size (l : Bs) : (S l).size = l.length := rfl
def pairCells (P : List (Bs × Bs)) : List Value := P.flatMap fun p => [.string (S p.1), .string (S p.2)]
theorem pairCells_snoc (P : List (Bs × Bs)) (p : Bs × Bs) : pairCells (P ++ [p]) = pairCells P ++ [.string (S p.1), .string (S p.2)] := by simp [pairCells]
theorem pairCells_length (P : List (Bs × Bs)) : (pairCells P).length = P.length * 2 := by
  induction P with
  | nil => rfl
  | cons p r ih => simp only [pairCells, List.flatMap_cons, List.length_append, List.length_cons, List.length_nil] at *; omega

theorem Tryz.info145 : (Tryz.prog.info? 145).map (fun i => (i.zero, i.size, i.bytes)) = some (some (.agg #[.string ⟨#[]⟩, .string ⟨#[]⟩]), 2, 32) := by kernel_rfl

theorem run_max2 {P : Program} (ats : Array TypeId) (ty : TypeId) (k k' : IntKind) (x y : Int) (w : World) : (Builtin.max_ ats ty #[.int k x, .int k' y]).run P w = .ok (.int k (if x < y then y else x)) w := by
  simp [Builtin.max_, Builtin.max2]
attribute [local go_sem] run_max2

theorem valLen_le (l : Bs) : valLen l ≤ l.length := by
  cases l with
  | nil => simp [valLen]
  | cons c r =>
    simp only [valLen]
    split
    · split
      · rename_i h; simp; omega
      · omega
    · exact length_takeWhile_le _ _

theorem drop_get (s : ByteArray) (k j : Nat) (h : k + j < s.size) (h' : j < (s.data.toList.drop k).length) : (s.data.toList.drop k)[j] = s[k + j] := by
  rw [List.getElem_drop, ba_get s (k + j) h (by rw [ba_size]; exact h)]

set_option maxHeartbeats 2000000 in
set_option maxRecDepth 100000 in
theorem pairs_any (s : ByteArray) (w : World) (hs : s.size ≤ 1000000) :
    Calls Tryz.prog 62 #[.string s] w fun e w' => ∃ v, e = .returned v ∧ w'.ownsRow w.heap.size 145 2 v (kv s.data.toList).length (pairCells (kv s.data.toList)) ∧ Below w.heap.size w w' := by
  have hsz := ba_size s
  have HS := Lib.hid hsz
  clear hsz
  obtain ⟨i0, hi, hz0, hz1, hz2⟩ := info_parts Tryz.info145
  go_enter Tryz.func62, Tryz.ntmps62
  go_wp2
  go_loopw [3, 4] (fun v a wr => ∃ (k : Nat) (P : List (Bs × Bs)), k ≤ s.size ∧ a = .int .i64 k ∧ Hid (P ++ kv (s.data.toList.drop k) = kv s.data.toList) ∧ Hid (P.length ≤ k) ∧ wr.ownsRow w.heap.size 145 2 v P.length (pairCells P) ∧ Below w.heap.size w wr) (fun _ a _ => s.size - (intOf a).toNat)
  case atStart => exact ⟨0, [], by omega, rfl, rfl, Nat.le_refl _, World.ownsRow_nil _ _ _ _, Below.refl _ _⟩
  case round =>
    obtain ⟨k, P, hk, rfl, HP, HL, hown, hbel⟩ := hrel
    by_cases hlt : k < s.size
    · have hlt' : (k : Int) < (s.size : Int) := by omega
      have ht := length_takeWhile_le nmB (s.data.toList.drop k)
      obtain ⟨t, ht⟩ : ∃ t, t = ((s.data.toList.drop k).takeWhile nmB).length := ⟨_, rfl⟩
      have HT := Lib.hid ht
      clear ht
      obtain ⟨wo, hwo⟩ : ∃ wo : World, wo = wr := ⟨_, rfl⟩
      subst hwo
      have HN : Hid (∀ j (hj : k + j < s.size), j < t → nmB s[k + j] = true) := by
        intro j hj hjt
        have hj' : j < (s.data.toList.drop k).length := by rw [List.length_drop, HS.out]; omega
        obtain ⟨h3, h4⟩ := tw_lt nmB (s.data.toList.drop k) j (by rw [← HT.out]; exact hjt)
        rwa [drop_get s k j hj hj'] at h4
      have HX : Hid (∀ (hj : k + t < s.size), nmB s[k + t] = false) := by
        intro hj
        have hj' : t < (s.data.toList.drop k).length := by rw [List.length_drop, HS.out]; omega
        have h4 := tw_end nmB (s.data.toList.drop k) (by rw [← HT.out]; exact hj')
        have h5 : (s.data.toList.drop k)[t] = s[k + t] := drop_get s k t hj hj'
        rw [← h5]
        simpa only [← HT.out] using h4
      have hkt : k + t ≤ s.size := by
        have := length_takeWhile_le nmB (s.data.toList.drop k)
        rw [← HT.out, List.length_drop, HS.out] at this
        omega
      go_wp2_with fail
      go_loopw [5] (fun v wi => Hid (wi = wo) ∧ ∃ j : Nat, j ≤ t ∧ v = .int .i64 ((k + j : Nat) : Int)) (fun v _ => s.size - (intOf v).toNat)
      case atStart => exact ⟨rfl, 0, by omega, rfl⟩
      case round =>
        obtain ⟨hwi, j, hj, rfl⟩ := hrel
        obtain rfl := hwi.out
        by_cases hjt : j < t
        · have hks : k + j < s.size := by omega
          have hks' : ((k + j : Nat) : Int) < (s.size : Int) := by omega
          have hn := HN.out j hks hjt
          have HNN := Lib.hid hn
          clear hn
          go_wp2_with (go_at_call 84; refine (nameByte_any _ _).mono ?_; rintro e w' ⟨rfl, rfl⟩; rw [HNN.out])
          go_roundw
          case rel => exact ⟨by first | exact rfl | exact trivial, j + 1, by omega, by go_num⟩
          case measure => simp [intOf]; omega
        · obtain rfl : j = t := by omega
          clear hjt HN
          have hle : (k : Int) + (j : Int) ≤ (s.size : Int) := by omega
          -- where the name ends
          have hcase : (¬ (k + j < s.size)) ∨ ∃ (h : k + j < s.size), nmB s[k + j] = false := by
            by_cases h : k + j < s.size
            · exact .inr ⟨h, HX.out h⟩
            · exact .inl h
          by_cases hskip : j = 0 ∨ (s.data.toList.drop k)[j]? ≠ some 61
          · -- no pair here
            have hne : s.data.toList.drop k ≠ [] := by
              intro e
              have := congrArg List.length e
              rw [List.length_drop, HS.out] at this
              simp at this
              omega
            have HP' : Hid (P ++ kv (s.data.toList.drop (k + max j 1)) = kv s.data.toList) := by
              have h2 := kv_skip hne (by rw [← HT.out]; exact hskip)
              rw [← HT.out, List.drop_drop] at h2
              show _ = _
              rw [← h2]
              exact HP.out
            have HLm : Hid (P.length ≤ k + max j 1) := by have := HL.out; show _ ≤ _; omega
            clear HX HP HL HT
            rcases hcase with hend | ⟨hend, hnm⟩
            · have hj1 : 1 ≤ j := by omega
              have q1 : ¬ (k : Int) + (j : Int) < (s.size : Int) := by omega
              have q2 : ((k : Int) + (j : Int) == (k : Int)) = false := by simp; omega
              have q3 : ((k : Int) + (j : Int) == (s.size : Int)) = true := by simp; omega
              have q4 : ¬ (k : Int) + (j : Int) < (k : Int) + 1 := by omega
              clear hskip
              go_wp2
              go_roundw
              case rel => exact ⟨k + max j 1, P, by omega, by go_num, HP', HLm, hown, hbel⟩
              case measure => simp [intOf]; omega
            · by_cases hj0 : j = 0
              · subst hj0
                have hnm : nmB (s[k]'hlt) = false := by simpa using hnm
                have HNN := Lib.hid hnm
                clear hnm
                have q1 : (k : Int) + ((0 : Nat) : Int) < (s.size : Int) := by omega
                have q2 : ((k : Int) + ((0 : Nat) : Int) == (k : Int)) = true := by simp
                clear hskip
                go_wp2_with (go_at_call 84; refine (nameByte_any _ _).mono ?_; rintro e w' ⟨rfl, rfl⟩; rw [HNN.out])
                go_roundw
                case rel => exact ⟨k + 1, P, by omega, by go_num, HP', HLm, hown, hbel⟩
                case measure => simp [intOf]; omega
              · have hj1 : 1 ≤ j := by omega
                have HNN := Lib.hid hnm
                clear hnm
                have q1 : (k : Int) + (j : Int) < (s.size : Int) := by omega
                have q2 : ((k : Int) + (j : Int) == (k : Int)) = false := by simp; omega
                have q3 : ((k : Int) + (j : Int) == (s.size : Int)) = false := by simp; omega
                have q4 : ¬ (k : Int) + (j : Int) < (k : Int) + 1 := by omega
                have q5 : ((s[k + j].toNat : Int) != 61) = true := by
                  have h61 : s[k + j] ≠ 61 := by
                    intro e
                    rcases hskip with h | h
                    · omega
                    · have hj' : j < (s.data.toList.drop k).length := by rw [List.length_drop, HS.out]; omega
                      rw [List.getElem?_eq_getElem hj', drop_get s k j hend hj'] at h
                      exact h (by rw [e])
                  have := u8_ne h61
                  simpa using this
                clear hskip
                go_wp2_with (go_at_call 84; refine (nameByte_any _ _).mono ?_; rintro e w' ⟨rfl, rfl⟩; rw [HNN.out])
                go_roundw
                case rel => exact ⟨k + max j 1, P, by omega, by go_num, HP', HLm, hown, hbel⟩
                case measure => simp [intOf]; omega
          · -- a pair, if a value follows
            have hj1 : 1 ≤ j := by omega
            have h61 : (s.data.toList.drop k)[j]? = some 61 := by
              cases h : (s.data.toList.drop k)[j]? with
              | none => exact absurd (.inr (by rw [h]; simp)) hskip
              | some x =>
                by_cases hx : x = 61
                · rw [hx]
                · exact absurd (.inr (by rw [h]; simpa using hx)) hskip
            have hend : k + j < s.size := by
              rcases Nat.lt_or_ge (k + j) s.size with h | h
              · exact h
              · rw [List.getElem?_eq_none (by rw [List.length_drop, HS.out]; omega)] at h61
                cases h61
            have hc61 : s[k + j] = 61 := by
              have hj' : j < (s.data.toList.drop k).length := by rw [List.length_drop, HS.out]; omega
              rw [List.getElem?_eq_getElem hj', drop_get s k j hend hj'] at h61
              exact Option.some.inj h61
            have hnm := HX.out hend
            have HNN := Lib.hid hnm
            have q1 : (k : Int) + (j : Int) < (s.size : Int) := by omega
            have q2 : ((k : Int) + (j : Int) == (k : Int)) = false := by simp; omega
            have q3 : ((k : Int) + (j : Int) == (s.size : Int)) = false := by simp; omega
            have q5 : ((s[k + j].toNat : Int) != 61) = false := by rw [hc61]; rfl
            have hne : s.data.toList.drop k ≠ [] := by
              intro e
              rw [e] at h61
              simp at h61
            obtain ⟨V, hV⟩ : ∃ V, V = valLen (s.data.toList.drop (k + j + 1)) := ⟨_, rfl⟩
            have HV := Lib.hid hV
            have HVL : Hid (k + j + 1 + V ≤ s.size) := by
              show _ ≤ _
              have := valLen_le (s.data.toList.drop (k + j + 1))
              rw [← hV, List.length_drop, HS.out] at this
              omega
            have hsub : Hid ((s.extract (k + j + 1) s.size).data.toList = s.data.toList.drop (k + j + 1)) := Lib.extract_to_end s (k + j + 1)
            have hsubz : (s.extract (k + j + 1) s.size).size ≤ 9223372036854775806 := by rw [ByteArray.size_extract]; omega
            have hk0 := kv_none hne (by rw [← HT.out]; exact hskip)
            have hk1 := kv_some hne (by rw [← HT.out]; exact hskip)
            rw [← HT.out, List.drop_drop, ← Nat.add_assoc, ← hV] at hk0
            rw [← HT.out, List.drop_drop, ← Nat.add_assoc, ← hV, List.drop_drop, show k + (j + 1 + V) = k + j + 1 + V from by omega] at hk1
            have HK0 := Lib.hid hk0
            have HK1 := Lib.hid hk1
            clear hk0 hk1 hV h61 hc61 hnm hskip hcase hne HX
            by_cases hV0 : V = 0
            · have HVV : Hid (V = 0) := hV0
              have q6 : ((V : Int) == 0) = true := by simp; omega
              clear hV0
              go_wp2_with (first | (go_at_call 84; refine (nameByte_any _ _).mono ?_; rintro e w' ⟨rfl, rfl⟩; rw [HNN.out]) | (go_at_call 85; refine (value_any _ _ hsubz).mono ?_; rintro e w' ⟨rfl, rfl⟩; rw [hsub.out, ← HV.out]))
              go_roundw
              case rel => exact ⟨k + j + 1, P, by omega, by go_num, by show _ = _; rw [← HK0.out HVV.out]; exact HP.out, by have := HL.out; show _ ≤ _; omega, hown, hbel⟩
              case measure => simp [intOf]; omega
            · have q6 : ((V : Int) == 0) = false := by simp; omega
              have hV1 : 1 ≤ V := by omega
              have HV0 := Lib.hid hV0
              clear hV0
              go_wp2_with (first | (go_at_call 84; refine (nameByte_any _ _).mono ?_; rintro e w' ⟨rfl, rfl⟩; rw [HNN.out]) | (go_at_call 85; refine (value_any _ _ hsubz).mono ?_; rintro e w' ⟨rfl, rfl⟩; rw [hsub.out, ← HV.out]))
              have e1 : s.extract k (k + j) = S (((s.data.toList.drop k).take j)) := S_of (by rw [Lib.extract_data]; congr 1; omega)
              have e2 : s.extract (k + j + 1) (k + j + 1 + V) = S ((s.data.toList.drop (k + j + 1)).take V) := S_of (by rw [Lib.extract_data]; congr 1; omega)
              have E1 := Lib.hid e1
              have E2 := Lib.hid e2
              clear e1 e2
              have HVL' := HVL.out
              have b1 : (k : Int) + (j : Int) + 1 + (V : Int) ≤ (s.size : Int) := by omega
              clear HVL'
              have b2 : (k : Int) ≤ (k : Int) + (j : Int) := by omega
              have b3 : ((k : Int) + (j : Int)).toNat = k + j := by omega
              have b4 : (k : Int) + (j : Int) + 1 ≤ (k : Int) + (j : Int) + 1 + (V : Int) := by omega
              have b5 : ((k : Int) + (j : Int) + 1).toNat = k + j + 1 := by omega
              have b6 : ((k : Int) + (j : Int) + 1 + (V : Int)).toNat = k + j + 1 + V := by omega
              have b7 : (0 : Int) ≤ (k : Int) + (j : Int) + 1 + (V : Int) := by omega
              have b8 : (0 : Int) ≤ (k : Int) + (j : Int) + 1 := by omega
              have b9 : IntKind.i64.wrap ((k : Int) + (j : Int) + 1) = (k : Int) + (j : Int) + 1 := IntWalk.i64_in _ (by omega)
              have b10 : IntKind.i64.wrap ((k : Int) + (j : Int) + 1 + (V : Int)) = (k : Int) + (j : Int) + 1 + (V : Int) := IntWalk.i64_in _ (by omega)
              have HO := Lib.hid hown
              have HB := Lib.hid hbel
              clear hown hbel
              go_region_law (refine step_append_lies _ rfl (.tmp 52) (.tmp 66) 143 rfl w.heap.size 145 i0 (.agg #[.string ⟨#[]⟩, .string ⟨#[]⟩]) 2 32 Tryz.underlying143 hi hz0 hz1 hz2 rfl (by decide) _ P.length (pairCells P) (by simp [Act.eval]) (HO.out.alloc _) ⟨wr.heap.size, 0, none⟩ 1 1 [.string (s.extract k (k + j)), .string (s.extract (k + j + 1) (k + j + 1 + V))] (by simp [Act.eval]) rfl (World.news_of_block (t := 145) (fr := (0, 0)) (heap_alloc_new _ _)) (by intro u hu; simp at hu; rcases hu with rfl | rfl <;> rfl) (by omega) (by have := HL.out; unfold maxLen; omega) (by have := HL.out; omega) (by have := HB.out.size; simp; omega) _ rfl ?_; intro g cap w1 hown1 hgrow1 _ _)
              have R1 : w1.ownsRow w.heap.size 145 2 (.slice (some ⟨g, 0, none⟩) (P.length + 1) cap) (P ++ [((s.data.toList.drop k).take j, (s.data.toList.drop (k + j + 1)).take V)]).length (pairCells (P ++ [((s.data.toList.drop k).take j, (s.data.toList.drop (k + j + 1)).take V)])) := by
                rw [pairCells_snoc, ← E1.out, ← E2.out, List.length_append]
                exact hown1
              have R2 : Below w.heap.size w w1 := ((HB.out.drew).alloc (HB.out.size) _).grown hgrow1 (by have := HB.out.size; simp; omega) (fun k hk => (HO.out.lt k hk).1)
              have R3 : Hid (P ++ [((s.data.toList.drop k).take j, (s.data.toList.drop (k + j + 1)).take V)] ++ kv (s.data.toList.drop (k + j + 1 + V)) = kv s.data.toList) := by
                show _ = _
                rw [List.append_assoc, List.singleton_append, ← HK1.out HV0.out]
                exact HP.out
              clear hown1 hgrow1 b9 b10
              go_wp2
              go_roundw
              case rel => exact ⟨k + j + 1 + V, _, HVL.out, by go_num, R3, by have := HL.out; show _ ≤ _; simp; omega, R1, R2⟩
              case measure => simp [intOf]; omega
    · obtain rfl : k = s.size := by omega
      have HF : Hid (P = kv s.data.toList) := by
        have := HP.out
        rwa [List.drop_of_length_le (by rw [HS.out]; omega), kv_nil, List.append_nil] at this
      have hge : ¬ ((s.size : Nat) : Int) < (s.size : Int) := by omega
      clear hk hlt
      go_wp2
      go_ret
      exact ⟨_, rfl, by rw [← HF.out]; exact hown, hbel⟩
end Go.Proofs.YtelkphcbopbhoaaGreatDoor
