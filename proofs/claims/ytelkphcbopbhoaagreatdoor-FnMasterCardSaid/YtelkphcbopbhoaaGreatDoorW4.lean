/-
  Walks: decodeParamsLine.
-/
import Derived.Test.YtelkphcbopbhoaaGreatDoorW3
import Derived.Maps.OwnSet
import Derived.Deep.QuietTactic
import Derived.BigQuiet
namespace Go.Proofs.YtelkphcbopbhoaaGreatDoor
open Go Go.RowKit
open Go.Maps (Keyed string_keyed)

/-- What a map reads as, by a function of its keys. -/
def MapIs (D : DataW Unit) (L : Bs → Option Bs) : Prop :=
  Maps.IsMap D ∧ ∀ k : Bs, Maps.has D (.string k) = (L k).isSome ∧ ∀ v, L k = some v → ∀ zd, D.atKey (.string k) zd = .lit (.string v)
theorem keylit {k : Bs} : WideAt.IsKeyLit (.string k) := by simp [WideAt.IsKeyLit]
theorem MapIs.empty : MapIs (.map []) (fun _ => none) := ⟨⟨[], rfl⟩, fun k => ⟨rfl, fun v h => by cases h⟩⟩
theorem lit_ne {a b : Bs} (h : a ≠ b) : (Lit.string a) ≠ .string b := fun e => h (by injection e)
theorem MapIs.put {D : DataW Unit} {L : Bs → Option Bs} (h : MapIs D L) (k v : Bs) : MapIs (D.put (.string k) (.lit (.string v))) (fun x => if k = x then some v else L x) := by
  refine ⟨h.1.put _ _, fun x => ?_⟩
  by_cases e : k = x
  · subst e
    refine ⟨?_, fun u hu zd => ?_⟩
    · rw [Maps.has_put_same h.1 keylit]; simp
    · simp at hu; subst hu
      exact Maps.atKey_put_same h.1 keylit _ _
  · have hne := lit_ne (fun e' => e e'.symm : x ≠ k)
    refine ⟨?_, fun u hu zd => ?_⟩
    · rw [Maps.has_put_other hne]; simp [e]; exact (h.2 x).1
    · simp only [e, if_false] at hu
      rw [Maps.atKey_put_other hne]
      exact (h.2 x).2 u hu zd
theorem MapIs.congr {D : DataW Unit} {L L' : Bs → Option Bs} (h : MapIs D L) (e : ∀ k, L k = L' k) : MapIs D L' := by
  have : L = L' := funext e
  exact this ▸ h

theorem law9 : Keyed Tryz.prog 9 := string_keyed Tryz.underlying9
noncomputable def PE : Value → Option (DataW Unit × List MemPlace) := plainElem Tryz.prog 9
theorem pe_string (s : ByteArray) (h : s.size ≤ maxLen) : PE (.string s) = some (.lit (.string s.data.toList), []) := plainElem_string Tryz.underlying9 h

theorem own_shape {w : World} {base n : Nat} {e : TypeId} {size : Nat} {v : Value} {xs : List Value} (h : w.ownsRow base e size v n xs) : ∃ A c, v = .slice A n c := by
  rcases h.2 with ⟨rfl, rfl⟩ | ⟨g, cap, cur, rfl, _⟩
  · exact ⟨none, 0, rfl⟩
  · exact ⟨_, cap, rfl⟩

theorem pairCells_get (P : List (Bs × Bs)) (k : Nat) (h : k < P.length) : (pairCells P)[k * 2]? = some (.string (S P[k].1)) ∧ (pairCells P)[k * 2 + 1]? = some (.string (S P[k].2)) := by
  induction P generalizing k with
  | nil => simp at h
  | cons p r ih =>
    cases k with
    | zero => simp [pairCells]
    | succ k =>
      have := ih k (by simpa using h)
      have e : pairCells (p :: r) = .string (S p.1) :: .string (S p.2) :: pairCells r := by simp [pairCells]
      rw [e, show (k + 1) * 2 = k * 2 + 1 + 1 from by omega, show k * 2 + 1 + 1 + 1 = (k * 2 + 1) + 1 + 1 from by omega]
      simpa using this

theorem own_cell {w : World} {base n : Nat} {e : TypeId} {size g cap : Nat} {xs : List Value} (h : w.ownsRow base e size (.slice (some ⟨g, 0, none⟩) n cap) n xs) {j : Nat} {u : Value} (hu : xs[j]? = some u) : w.cell? ⟨g, j, none⟩ = some u := by
  have := h.cells (g := g) rfl j u hu
  have hadd : (⟨g, 0, none⟩ : Addr).add j = ⟨g, j, none⟩ := by unfold Addr.add; split <;> simp_all
  rwa [hadd] at this

def trimP (P : List (Bs × Bs)) : List (Bs × Bs) := P.map fun p => (p.1, trimQ p.2)

theorem grown_below {w w1 : World} (h : Below w.heap.size w w1) (row : Option Nat) : w.grownBy w1 row := ⟨h.os, h.tape, h.output, h.size, fun i hi _ => h.block i hi⟩
theorem row_below {w w1 : World} {base n : Nat} {e : TypeId} {size : Nat} {v : Value} {xs : List Value} (h : w.ownsRow base e size v n xs) (hb : Below w.heap.size w w1) : w1.ownsRow base e size v n xs :=
  h.kept (grown_below hb none) (by cases v.ownBlock <;> simp)
theorem map_below {w w1 : World} {b n : Nat} {D : DataW Unit} (h : w.ownsMap Tryz.prog 9 PE b n D) (hb : Below w.heap.size w w1) : w1.ownsMap Tryz.prog 9 PE b n D := h.kept (grown_below hb none) (by simp)
theorem below_grown' {B : Nat} {a w w' : World} {row : Option Nat} (h : Below B a w) (hg : w.grownBy w' row) (hB : B ≤ w.heap.size) (hr : ∀ k, row = some k → B ≤ k) : Below B a w' := h.grown hg hB hr
theorem map_drewN {w : World} {b n : Nat} {D : DataW Unit} (h : w.ownsMap Tryz.prog 9 PE b n D) (m : Nat) : (w.drewN m).ownsMap Tryz.prog 9 PE b n D := h
theorem row_drewN {w : World} {base n : Nat} {e : TypeId} {size : Nat} {v : Value} {xs : List Value} (h : w.ownsRow base e size v n xs) (m : Nat) : (w.drewN m).ownsRow base e size v n xs := h
theorem trimP_take (P : List (Bs × Bs)) (k : Nat) (h : k < P.length) : trimP (P.take (k + 1)) = trimP (P.take k) ++ [(P[k].1, trimQ P[k].2)] := by
  rw [List.take_succ_eq_append_getElem h]
  unfold trimP
  rw [List.map_append]
  rfl
theorem trimQ_length (b : Bs) : (trimQ b).length ≤ b.length := by
  unfold trimQ
  have h1 := (List.dropWhile_suffix blankB (l := b)).length_le
  have h2 := (List.dropWhile_suffix blankB (l := (b.dropWhile blankB).reverse)).length_le
  rw [List.length_reverse] at h2 ⊢
  omega
theorem kv_length (l : Bs) : (kv l).length ≤ l.length := by
  generalize hn : l.length = n
  induction n using Nat.strongRecOn generalizing l with
  | _ n ih =>
    by_cases h : l = []
    · rw [h, kv_nil]; simp
    · have hp := List.length_pos_iff.2 h
      by_cases h1 : (l.takeWhile nmB).length = 0 ∨ l[(l.takeWhile nmB).length]? ≠ some 61
      · rw [kv_skip h h1]
        have := ih _ (by rw [List.length_drop]; omega) (l.drop (max (l.takeWhile nmB).length 1)) rfl
        rw [List.length_drop] at this
        omega
      · by_cases h2 : valLen (l.drop ((l.takeWhile nmB).length + 1)) = 0
        · rw [kv_none h h1 h2]
          have := ih _ (by rw [List.length_drop]; omega) (l.drop ((l.takeWhile nmB).length + 1)) rfl
          rw [List.length_drop] at this
          omega
        · rw [kv_some h h1 h2, List.length_cons]
          have := ih _ (by rw [List.length_drop]; omega) (l.drop ((l.takeWhile nmB).length + 1 + valLen (l.drop ((l.takeWhile nmB).length + 1)))) rfl
          rw [List.length_drop] at this
          omega
/-- No piece is longer than the text. -/
theorem kv_pieces (l : Bs) : ∀ p ∈ kv l, p.1.length ≤ l.length ∧ p.2.length ≤ l.length := by
  generalize hn : l.length = n
  induction n using Nat.strongRecOn generalizing l with
  | _ n ih =>
    by_cases h : l = []
    · rw [h, kv_nil]; simp
    · have hp := List.length_pos_iff.2 h
      by_cases h1 : (l.takeWhile nmB).length = 0 ∨ l[(l.takeWhile nmB).length]? ≠ some 61
      · rw [kv_skip h h1]
        intro p hp'
        have := ih _ (by rw [List.length_drop]; omega) (l.drop (max (l.takeWhile nmB).length 1)) rfl p hp'
        rw [List.length_drop] at this
        omega
      · by_cases h2 : valLen (l.drop ((l.takeWhile nmB).length + 1)) = 0
        · rw [kv_none h h1 h2]
          intro p hp'
          have := ih _ (by rw [List.length_drop]; omega) (l.drop ((l.takeWhile nmB).length + 1)) rfl p hp'
          rw [List.length_drop] at this
          omega
        · rw [kv_some h h1 h2]
          intro p hp'
          rcases List.mem_cons.1 hp' with rfl | hp'
          · simp only [List.length_take, List.length_drop]; omega
          · have := ih _ (by rw [List.length_drop]; omega) (l.drop ((l.takeWhile nmB).length + 1 + valLen (l.drop ((l.takeWhile nmB).length + 1)))) rfl p hp'
            rw [List.length_drop] at this
            omega

set_option maxRecDepth 100000 in
set_option maxHeartbeats 2000000 in
theorem params_any (s : ByteArray) (w : World) (hs : s.size ≤ 1000000) :
    Calls Tryz.prog 49 #[.string s] w fun e w' => ∃ M n D, e = .returned (.map (some M)) ∧ w.heap.size ≤ M ∧ n ≤ 1000000 ∧ w'.ownsMap Tryz.prog 9 PE M n D ∧ MapIs D (look (trimP (kv s.data.toList))) ∧ Below w.heap.size w w' := by
  have hmm := @run_makeMap Tryz.prog
  have HKL : Hid ((kv s.data.toList).length ≤ s.size) := by have := kv_length s.data.toList; rw [ba_size] at this; exact this
  have HKP : Hid (∀ p ∈ kv s.data.toList, p.1.length ≤ s.size ∧ p.2.length ≤ s.size) := by have := kv_pieces s.data.toList; rw [ba_size] at this; exact this
  go_enter Tryz.func49, Tryz.ntmps49
  go_wp2_with fail
  refine (pairs_any s _ hs).mono ?_
  rintro e w1 ⟨v, rfl, hown, hbel⟩
  obtain ⟨A, c, rfl⟩ := own_shape hown
  have hM := World.ownsMap_made w Tryz.prog 9 PE
  have hm1 : w1.ownsMap Tryz.prog 9 PE w.heap.size 0 (.map []) := map_below hM hbel
  have hb1 : Below w.heap.size w w1 := below_then' ((Below.refl _ _).alloc (Nat.le_refl _) _) hbel
  have hsz1 : w.heap.size + 1 ≤ w1.heap.size := by have := hbel.size; simpa using this
  have hown1 : w1.ownsRow (w.heap.size + 1) 145 2 (.slice A (kv s.data.toList).length c) (kv s.data.toList).length (pairCells (kv s.data.toList)) := by simpa using hown
  clear hown hM hbel
  generalize hP : kv s.data.toList = P at *
  have HP := Lib.hid hP
  clear hP
  have hPl : P.length ≤ 1000000 := by have := HKL.out; omega
  go_wp2_with fail
  go_loopw [12] (fun v wr => ∃ (k : Nat) (D : DataW Unit), k ≤ P.length ∧ v = .int .i64 k ∧ wr.ownsMap Tryz.prog 9 PE w.heap.size k D ∧ Hid (MapIs D (look (trimP (P.take k)))) ∧ wr.ownsRow (w.heap.size + 1) 145 2 (.slice A P.length c) P.length (pairCells P) ∧ Below w.heap.size w wr ∧ w.heap.size + 1 ≤ wr.heap.size) (fun v _ => P.length - (intOf v).toNat)
  case atStart => exact ⟨0, _, by omega, rfl, hm1, MapIs.empty, hown1, hb1, hsz1⟩
  case round =>
    clear hm1 hb1 hsz1 hown1
    obtain ⟨k, D, hk, rfl, hm, hD, hown, hbel, hsz⟩ := hrel
    by_cases hlt : k < P.length
    · have hlt' : (k : Int) < (P.length : Int) := by omega
      obtain ⟨g, cap, hv, hg1, hg2⟩ := hown.form (by omega)
      cases hv
      have hget := pairCells_get P k hlt
      have hc0 := own_cell hown hget.1
      have hc1 := own_cell hown hget.2
      have hp := HKP.out P[k] (List.getElem_mem hlt)
      obtain ⟨a, ha⟩ : ∃ a, a = P[k].1 := ⟨_, rfl⟩
      obtain ⟨b, hb⟩ : ∃ b, b = P[k].2 := ⟨_, rfl⟩
      rw [← ha] at hc0
      rw [← hb] at hc1
      rw [← ha, ← hb] at hp
      have Ha := Lib.hid ha
      have Hb := Lib.hid hb
      have HS := Lib.hid hp
      clear ha hb hp hget
      have hbs : (S b).size ≤ 9223372036854775806 := by have := HS.out.2; rw [S_size]; omega
      have HM := Lib.hid hm
      have HO := Lib.hid hown
      have HBe := Lib.hid hbel
      clear hm hown hbel
      go_wp2_with fail
      go_quiet (fail)
      go_wp2_with (first | (go_at_call 63; refine (trim_any _ _ hbs).mono ?_; rintro e w' ⟨rfl, rfl⟩) | (at_mapUpdate; go_loud (refine wpList_mapUpdate_own _ rfl _ _ _ 129 rfl 9 9 law9 Tryz.underlying129 PE w.heap.size k D rfl (map_drewN (HM.out.alloc _) _) (by have := HKL.out; unfold maxLen; omega) _ _ (.string a) rfl rfl (Go.WideMaps.keyOf_string_mk Tryz.underlying9 (by have := HS.out.1; have := HKL.out; rw [S_size]; unfold maxLen; omega)) (.lit (.string (trimQ b))) [] (pe_string (S (trimQ b)) (by have := HS.out.2; have := trimQ_length b; rw [S_size]; unfold maxLen; omega)) ?_); intro w1 hown1 hgrow1))
      have hD2 : Hid (MapIs (D.put (.string a) (.lit (.string (trimQ b)))) (look (trimP (P.take (k + 1))))) := by
        show MapIs _ _
        rw [trimP_take P k hlt, ← Ha.out, ← Hb.out]
        refine (hD.out.put a (trimQ b)).congr fun x => ?_
        rw [look_snoc]
      have hO2 : w1.ownsRow (w.heap.size + 1) 145 2 (.slice (some ⟨g, 0, none⟩) P.length c) P.length (pairCells P) := by
        refine (row_drewN (HO.out.alloc _) _).kept hgrow1 ?_
        exact .inr (fun e => by have e2 : g = w.heap.size := Option.some.inj e; omega)
      have hB2 : Below w.heap.size w w1 := by
        refine below_grown' (below_drewN' (HBe.out.alloc (by omega) _) _) hgrow1 (by simp; omega) (by simp)
      have hS2 : w.heap.size + 1 ≤ w1.heap.size := by
        have := hgrow1.size
        simp at this
        omega
      have hm2 := Lib.hid hown1
      clear hown1 hgrow1
      go_wp2
      go_roundw
      case rel => exact ⟨k + 1, _, by omega, by go_num, hm2.out, hD2, hO2, hB2, hS2⟩
      case measure => simp [intOf]; omega
    · obtain rfl : k = P.length := by omega
      have hlt' : ¬ (P.length : Int) < (P.length : Int) := by omega
      have HM := Lib.hid hm
      have HBe := Lib.hid hbel
      clear hm hbel hown
      go_wp2
      go_ret
      refine ⟨_, rfl, Nat.le_refl _, P.length, hPl, D, HM.out, ?_, HBe.out⟩
      have := hD.out
      rw [List.take_length] at this
      rw [HP.out]
      exact this
end Go.Proofs.YtelkphcbopbhoaaGreatDoor
