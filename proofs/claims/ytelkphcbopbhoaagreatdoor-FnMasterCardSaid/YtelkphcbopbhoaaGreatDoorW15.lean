/-
  Walks: lines.
-/
import Derived.Test.YtelkphcbopbhoaaGreatDoorWB
import Derived.Test.YtelkphcbopbhoaaGreatDoorLA
import Derived.Test.YtelkphcbopbhoaaGreatDoorShelf
import Derived.Lib.ConvBytes
namespace Go.Proofs.YtelkphcbopbhoaaGreatDoor
open Go Go.RowKit

theorem tab_below {w w1 : World} {n : String} {k : IntKind} {tb : List Int} (h : Lib.TabIs Tryz.prog w n k tb) (hb : Below w.heap.size w w1) : Lib.TabIs Tryz.prog w1 n k tb := by
  unfold Lib.TabIs World.var? at h ⊢
  cases hg : Tryz.prog.globalNamed n with
  | none => simp [hg] at h
  | some g =>
    simp only [hg, Option.bind_some] at h ⊢
    have hlt : g < w.heap.size := by
      rcases Nat.lt_or_ge g w.heap.size with h' | h'
      · exact h'
      · simp [Array.getElem?_eq_none h'] at h
    rw [hb.block g hlt]
    exact h
theorem trimBytes_at (b c m : Nat) (s : ByteArray) (hm : s.size = m) (w : World) (hb : Lib.Bytes w b 0 s) (hc : s.size ≤ c) (hs : s.size ≤ 1000000) (ha : ∀ x ∈ s.data.toList, x.toNat < 128) (htab : Lib.TabIs Tryz.prog w "bytes.asciiSpace" .u8 Lib.asciiSpaceTab) :
    Calls Tryz.prog 32 #[.slice (some ⟨b, 0, none⟩) m c] w fun e w' => e = .returned (Lib.bytesTrimSpace b 0 c s.data.toList) ∧ w' = w := by
  subst hm
  exact trimBytes_any b c s w hb hc hs ha htab
set_option maxHeartbeats 8000000 in
set_option maxRecDepth 100000 in
theorem lines_any (l : Bs) (w : World) (hl : l.length ≤ 10000) (hasc : ∀ c ∈ l, c.toNat < 128) (htab : Lib.TabIs Tryz.prog w "bytes.asciiSpace" .u8 Lib.asciiSpaceTab) :
    Calls Tryz.prog 24 #[.string (S l)] w fun e w' => ∃ r, e = .returned r ∧ Row w' w.heap.size r ((pieces l).map Lib.trimSpace) ∧ Below w.heap.size w w' := by
  obtain ⟨s, hs⟩ : ∃ s, s = S l := ⟨_, rfl⟩
  rw [← hs]
  have hsz : s.size = l.length := by rw [hs]; rfl
  have HS := Lib.hid hs
  clear hs
  go_enter Tryz.func24, Tryz.ntmps24
  go_wp2_with fail
  go_loopg [3, 4, 5] (l.length + 1) (fun gk r f a wr => ∃ (i j : Nat) (D : List Bs), i + gk = l.length + 1 ∧ f = .int .i64 j ∧ a = .int .i64 i ∧ j ≤ i ∧ Hid (i ≤ l.length → D ++ pieces (l.drop j) = pieces l ∧ ∀ c ∈ (l.drop j).take (i - j), c ≠ 10) ∧ Hid (i = l.length + 1 → D = pieces l) ∧ Hid (Row wr w.heap.size r (D.map Lib.trimSpace)) ∧ Hid (D.length ≤ i) ∧ Hid (Below w.heap.size w wr))
  case atStart => exact ⟨0, 0, [], by omega, rfl, rfl, by omega, fun _ => ⟨rfl, by simp⟩, fun h => by omega, World.ownsRow_nil _ _ _ _, by show 0 ≤ 0; omega, Below.refl _ _⟩
  case round =>
    obtain ⟨i, j, D, hk, rfl, rfl, hji, hD, hE, hrow, hDl, hbel⟩ := hrel
    by_cases hlt : i ≤ l.length
    · have hlt' : (i : Int) ≤ (s.size : Int) := by omega
      have hD1 := Lib.hid (hD.out hlt)
      by_cases hi : i = l.length
      · have hb : ((i : Int) == (s.size : Int)) = true := by simp; omega
        have hii : (i : Int) = (s.size : Int) := by omega
        have hji' : (j : Int) ≤ (i : Int) := by omega
        obtain ⟨p, hp⟩ : ∃ p, p = s.extract j l.length := ⟨_, rfl⟩
        have hpl : Hid (p.data.toList = l.drop j) := by
          show _ = _
          rw [hp, HS.out, Lib.extract_data, S_list]
          exact List.take_of_length_le (by rw [List.length_drop]; omega)
        have hcv := Lib.run_convert_string_bytes (P := Tryz.prog) wr 9 55 5 (s.extract j l.length) Tryz.underlying9 Tryz.underlying55 Tryz.underlying5
        rw [← hp] at hcv
        have hcc := grownCap_ge wr p.size 0 5
        have hpb := bytes_new wr p
        have hbw := below_bytes wr 5 p
        obtain ⟨wb, hwb⟩ : ∃ wb, wb = Lib.bytesWorld wr 5 p := ⟨_, rfl⟩
        rw [← hwb] at hcv hpb hbw
        obtain ⟨cp, hcp⟩ : ∃ cp, cp = grownCap wr p.size 0 5 := ⟨_, rfl⟩
        rw [← hcp] at hcv hcc
        clear hwb hcp
        have HP := Lib.hid hp
        have hps : p.size ≤ 10000 := by rw [← ba_size, hpl.out, List.length_drop]; omega
        have hpa : Hid (∀ x ∈ p.data.toList, x.toNat < 128) := by
          show ∀ x ∈ _, _
          rw [hpl.out]
          exact fun x hx => hasc x (List.mem_of_mem_drop hx)
        have htb : Hid (Lib.TabIs Tryz.prog wb "bytes.asciiSpace" .u8 Lib.asciiSpaceTab) := tab_below htab (hbel.out.trans (below_back hbel.out.size hbw))
        have hback := conv_back wb wr.heap.size cp p hpb
        obtain ⟨tv, htv⟩ : ∃ tv, tv = Lib.bytesTrimSpace wr.heap.size 0 cp p.data.toList := ⟨_, rfl⟩
        rw [← htv] at hback
        have HTV := Lib.hid htv
        rw [hp] at hcv
        clear hp htv
        have hpm : p.size = l.length - j := by rw [← ba_size, hpl.out, List.length_drop]
        go_wp2_with (first | (go_at_call 32; refine (trimBytes_at wr.heap.size cp (l.length - j) p hpm wb hpb hcc (by omega) hpa.out htb.out).mono ?_; rintro e w' ⟨rfl, rfl⟩; rw [← HTV.out]) | (at_builtin; refine wpList_app_str rfl _ _ rfl w.heap.size (D.map Lib.trimSpace) _ rfl ((hrow.out.below hbw).alloc _) _ _ rfl (heap_alloc_new _ _) (by rw [List.length_map]; have := hDl.out; omega) (by have := hbel.out.size; have := hbw.size; simp; omega) ?_; intro v' w5 hr5 hg5))
        have R1 : Hid (Row w5 w.heap.size v' ((D ++ [p.data.toList]).map Lib.trimSpace)) := by show Row _ _ _ _; rw [List.map_append]; exact hr5
        have R2 : Hid (Below w.heap.size w w5) := ((hbel.out.trans (below_back hbel.out.size hbw)).alloc (by have := hbel.out.size; have := hbw.size; omega) _).grown hg5 (by have := hbel.out.size; have := hbw.size; simp; omega) (fun k hk => (World.ownsRow.lt hrow.out k hk).1)
        have R3 : Hid (D ++ [p.data.toList] = pieces l) := by
          show _ = _
          have h1 := hD1.out.2
          rw [List.take_of_length_le (by rw [List.length_drop]; omega)] at h1
          rw [hpl.out, ← pieces_none _ h1]
          exact hD1.out.1
        clear hr5 hg5 hcv hback hpb hcc
        go_wp2_with fail
        go_roundg (gk - 1)
        case measure => omega
        case rel => exact ⟨i + 1, i + 1, D ++ [p.data.toList], by omega, by go_num, by go_num, by omega, fun h => by omega, fun _ => R3.out, R1.out, by have := hDl.out; show _ ≤ _; simp; omega, R2.out⟩
      · have hi' : i < s.size := by omega
        have hb : ((i : Int) == (s.size : Int)) = false := by simp; omega
        have hb2 : ((i : Int) == (l.length : Int)) = false := by simp; omega
        have hii : (i : Int) < (s.size : Int) := by omega
        have hji' : (j : Int) ≤ (i : Int) := by omega
        have hgi : s[i] = l[i]'(by omega) := by
          have := ba_get s i hi' (by rw [ba_size]; exact hi')
          first | rw [← this] | rw [this]
          have e : s.data.toList = l := by rw [HS.out]; rfl
          exact List.getElem_of_eq e _
        by_cases h10 : l[i]'(by omega) = 10
        · have hc : ((s[i].toNat : Int) == 10) = true := by rw [hgi, h10]; rfl
          obtain ⟨p, hp⟩ : ∃ p, p = s.extract j i := ⟨_, rfl⟩
          have hpl : Hid (p.data.toList = (l.drop j).take (i - j)) := by
            show _ = _
            rw [hp, HS.out, Lib.extract_data, S_list]
          have hcv := Lib.run_convert_string_bytes (P := Tryz.prog) wr 9 55 5 (s.extract j i) Tryz.underlying9 Tryz.underlying55 Tryz.underlying5
          rw [← hp] at hcv
          have hcc := grownCap_ge wr p.size 0 5
          have hpb := bytes_new wr p
          have hbw := below_bytes wr 5 p
          obtain ⟨wb, hwb⟩ : ∃ wb, wb = Lib.bytesWorld wr 5 p := ⟨_, rfl⟩
          rw [← hwb] at hcv hpb hbw
          obtain ⟨cp, hcp⟩ : ∃ cp, cp = grownCap wr p.size 0 5 := ⟨_, rfl⟩
          rw [← hcp] at hcv hcc
          clear hwb hcp
          have HP := Lib.hid hp
          have hps : p.size ≤ 10000 := by rw [← ba_size, hpl.out, List.length_take, List.length_drop]; omega
          have hpa : Hid (∀ x ∈ p.data.toList, x.toNat < 128) := by
            show ∀ x ∈ _, _
            rw [hpl.out]
            exact fun x hx => hasc x (List.mem_of_mem_drop (List.mem_of_mem_take hx))
          have htb : Hid (Lib.TabIs Tryz.prog wb "bytes.asciiSpace" .u8 Lib.asciiSpaceTab) := tab_below htab (hbel.out.trans (below_back hbel.out.size hbw))
          have hback := conv_back wb wr.heap.size cp p hpb
          obtain ⟨tv, htv⟩ : ∃ tv, tv = Lib.bytesTrimSpace wr.heap.size 0 cp p.data.toList := ⟨_, rfl⟩
          rw [← htv] at hback
          have HTV := Lib.hid htv
          rw [hp] at hcv
          clear hp htv
          have hpm : p.size = i - j := by rw [← ba_size, hpl.out, List.length_take, List.length_drop]; omega
          go_wp2_with (first | (go_at_call 32; refine (trimBytes_at wr.heap.size cp (i - j) p hpm wb hpb hcc (by omega) hpa.out htb.out).mono ?_; rintro e w' ⟨rfl, rfl⟩; rw [← HTV.out]) | (at_builtin; refine wpList_app_str rfl _ _ rfl w.heap.size (D.map Lib.trimSpace) _ rfl ((hrow.out.below hbw).alloc _) _ _ rfl (heap_alloc_new _ _) (by rw [List.length_map]; have := hDl.out; omega) (by have := hbel.out.size; have := hbw.size; simp; omega) ?_; intro v' w5 hr5 hg5))
          have R1 : Hid (Row w5 w.heap.size v' ((D ++ [p.data.toList]).map Lib.trimSpace)) := by show Row _ _ _ _; rw [List.map_append]; exact hr5
          have R2 : Hid (Below w.heap.size w w5) := ((hbel.out.trans (below_back hbel.out.size hbw)).alloc (by have := hbel.out.size; have := hbw.size; omega) _).grown hg5 (by have := hbel.out.size; have := hbw.size; simp; omega) (fun k hk => (World.ownsRow.lt hrow.out k hk).1)
          have R3 : Hid (D ++ [p.data.toList] ++ pieces (l.drop (i + 1)) = pieces l) := by
            show _ = _
            have h1 := hD1.out.2
            have e2 : l.drop i = 10 :: l.drop (i + 1) := by rw [List.drop_eq_getElem_cons (by omega), h10]
            have e : l.drop j = (l.drop j).take (i - j) ++ 10 :: l.drop (i + 1) := by
              have e3 := (List.take_append_drop (i - j) (l.drop j)).symm
              rw [List.drop_drop, show j + (i - j) = i by omega, e2] at e3
              exact e3
            have h2 := hD1.out.1
            rw [e, pieces_cut _ _ h1] at h2
            rw [hpl.out, List.append_assoc]
            exact h2
          clear hr5 hg5 hcv hback hpb hcc
          go_wp2_with fail
          go_roundg (gk - 1)
          case measure => omega
          case rel => exact ⟨i + 1, i + 1, D ++ [p.data.toList], by omega, by go_num, by go_num, by omega, fun _ => ⟨R3.out, by simp⟩, fun h => by omega, R1.out, by have := hDl.out; show _ ≤ _; simp; omega, R2.out⟩
        · have hc : (((l[i]'(by omega)).toNat : Int) == 10) = false := by
            simp only [beq_eq_false_iff_ne, ne_eq]
            intro e
            exact h10 (UInt8.toNat_inj.1 (by show _ = 10; omega))
          have R1 := Lib.hid (hrow.out)
          go_wp2_with fail
          go_roundg (gk - 1)
          case measure => omega
          case rel =>
            refine ⟨i + 1, j, D, by omega, rfl, by go_num, by omega, fun _ => ⟨hD1.out.1, ?_⟩, fun h => by omega, R1.out, by have := hDl.out; show _ ≤ _; omega, hbel.out⟩
            intro c hc
            rw [show i + 1 - j = (i - j) + 1 by omega, List.take_succ_eq_append_getElem (by rw [List.length_drop]; omega)] at hc
            rcases List.mem_append.1 hc with hc | hc
            · exact hD1.out.2 c hc
            · rw [List.mem_singleton.1 hc, List.getElem_drop]
              simpa [show j + (i - j) = i by omega] using h10
    · have hlt' : ¬ (i : Int) ≤ (s.size : Int) := by omega
      have hDD := Lib.hid (hE.out (by omega))
      go_wp2_with fail
      go_ret
      exact ⟨_, rfl, by rw [← hDD.out]; exact hrow.out, hbel.out⟩
end Go.Proofs.YtelkphcbopbhoaaGreatDoor
