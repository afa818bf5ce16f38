/-
  Walks: mixed, joined.
-/
import Derived.Test.YtelkphcbopbhoaaGreatDoorW7
namespace Go.Proofs.YtelkphcbopbhoaaGreatDoor
open Go Go.RowKit

theorem joined_snoc : ∀ (l : List Bs) (x : Bs), l ≠ [] → joined (l ++ [x]) = joined l ++ 44 :: x
  | [], _, h => absurd rfl h
  | [a], x, _ => by simp [joined]
  | a :: b :: r, x, _ => by
    have := joined_snoc (b :: r) x (by simp)
    simp only [List.cons_append, joined] at this ⊢
    rw [this]
    simp
theorem Row.form {w : World} {base : Nat} {v : Value} {L : List Bs} (h : Row w base v L) (h0 : 0 < L.length) : ∃ g cap, v = .slice (some ⟨g, 0, none⟩) L.length cap ∧ base ≤ g ∧ g < w.heap.size := World.ownsRow.form h h0
theorem Row.get {w : World} {base g n cap : Nat} {L : List Bs} (h : Row w base (.slice (some ⟨g, 0, none⟩) n cap) L) (hn : n = L.length) (k : Nat) (hk : k < L.length) : w.cell? ⟨g, k, none⟩ = some (.string (S L[k])) := by
  subst hn
  exact own_cell h (by simp [hk])
theorem joined_take_le (L : List Bs) (k : Nat) : (joined (L.take k)).length ≤ (joined L).length := by
  induction k generalizing L with
  | zero => simp [joined]
  | succ k ih =>
    match L, k with
    | [], _ => simp
    | [a], _ => simp [joined]
    | a :: b :: r, 0 => simp [joined]
    | a :: b :: r, k + 1 =>
      have := ih (b :: r)
      simp only [List.take_succ_cons, joined, List.length_append, List.length_cons] at this ⊢
      omega

set_option maxHeartbeats 2000000 in
set_option maxRecDepth 100000 in
theorem joined_any (v : Value) (L : List Bs) (b : Nat) (w : World) (hrow : Row w b v L) (h0 : 0 < L.length) (hl : (joined L).length ≤ 1000000) (hL : L.length ≤ 1000) :
    Calls Tryz.prog 19 #[v] w fun e w' => e = .returned (.string (S (joined L))) ∧ w = w' := by
  obtain ⟨g, cap, rfl, _, _⟩ := hrow.form h0
  have HR := Lib.hid hrow
  clear hrow
  go_enter Tryz.func19, Tryz.ntmps19
  go_wp2_with fail
  go_loopw [3, 8] (fun s a wr => Hid (wr = w) ∧ ∃ k : Nat, k ≤ L.length ∧ a = .int .i64 k ∧ s = .string (S (joined (L.take k)))) (fun _ a _ => L.length - (intOf a).toNat)
  case atStart => exact ⟨rfl, 0, by omega, rfl, rfl⟩
  case round =>
    obtain ⟨hwr, k, hk, rfl, rfl⟩ := hrel
    obtain rfl := hwr.out
    obtain ⟨A, hA⟩ : ∃ A, A = joined (L.take k) := ⟨_, rfl⟩
    by_cases hlt : k < L.length
    · have hlt' : (k : Int) < (L.length : Int) := by omega
      have hc := HR.out.get rfl k hlt
      obtain ⟨x, hx⟩ : ∃ x, x = L[k] := ⟨_, rfl⟩
      rw [← hx] at hc
      have hB : Hid (joined (L.take (k + 1)) = if k = 0 then x else A ++ 44 :: x) := by
        show _ = _
        rw [List.take_succ_eq_append_getElem hlt, ← hx, hA]
        by_cases e : k = 0
        · subst e; simp [joined]
        · rw [if_neg e, joined_snoc _ _ (by intro e2; have := congrArg List.length e2; rw [List.length_take, List.length_nil] at this; omega)]
      have hlen := joined_take_le L (k + 1)
      rw [hB.out] at hlen
      rw [← hA]
      by_cases e : k = 0
      · have hA0 : A = [] := by rw [hA, e]; rfl
        rw [if_pos e] at hlen
        subst e
        have hs : (S A).size + (S x).size ≤ 1000000 := by rw [hA0, S_size, S_size]; simp; omega
        have HA := Lib.hid hA0
        clear hA hx hA0 hlen hl
        go_wp2
        go_roundw
        case rel => exact ⟨by first | exact rfl | exact trivial, 1, by omega, by go_num, by rw [hB.out, HA.out, S_append]; rfl⟩
        case measure => simp [intOf]; omega
      · have hs : (S A).size + (S x).size ≤ 1000000 := by rw [if_neg e] at hlen; rw [S_size, S_size]; simp at hlen; omega
        have hs1 : (S A).size + 1 + (S x).size ≤ 1000000 := by rw [if_neg e] at hlen; rw [S_size, S_size]; simp at hlen; omega
        have hs2 : (S A ++ (⟨#[44]⟩ : ByteArray)).size = (S A).size + 1 := by simp [ByteArray.size_append]; rfl
        have hk1 : (0 : Int) < (k : Int) := by omega
        clear hA hx hlen hl
        go_wp2
        go_roundw
        case rel => exact ⟨by first | exact rfl | exact trivial, k + 1, by omega, by go_num, by rw [hB.out, if_neg e, show (⟨#[44]⟩ : ByteArray) = S [44] from rfl, S_append, S_append]; simp⟩
        case measure => simp [intOf]; omega
    · obtain rfl : k = L.length := by omega
      have hge : ¬ ((L.length : Nat) : Int) < (L.length : Int) := by omega
      go_wp2
      go_ret
      try rw [List.take_length]
      exact ⟨rfl, rfl⟩

theorem swap_perm (L : List Bs) (k j : Nat) (hk : k < L.length) (hj : j < L.length) : ((L.set k L[j]).set j L[k]).Perm L := by
  rw [List.perm_iff_count]
  intro x
  rw [List.count_set (by simpa using hj), List.count_set hk, List.getElem_set]
  have h1 : List.count x L ≥ (if L[k] == x then 1 else 0) := by
    split
    · rename_i h; rw [← eq_of_beq h]; exact List.count_pos_iff.2 (List.getElem_mem hk)
    · omega
  have h2 : List.count x L ≥ (if L[j] == x then 1 else 0) := by
    split
    · rename_i h; rw [← eq_of_beq h]; exact List.count_pos_iff.2 (List.getElem_mem hj)
    · omega
  split <;> (rename_i e; try subst e) <;> repeat' split
  all_goals simp_all
  all_goals omega

theorem Row.cellsOf {w : World} {base g n cap : Nat} {L : List Bs} (h : Row w base (.slice (some ⟨g, 0, none⟩) n cap) L) (hn : n = L.length) : ∀ j u, (L.map fun t => Value.string (S t))[j]? = some u → w.cell? ((⟨g, 0, none⟩ : Addr).add j) = some u := by
  subst hn
  exact World.ownsRow.cells h rfl

theorem own_stored {w : World} {base g n cap : Nat} {L : List Bs} (h : Row w base (.slice (some ⟨g, 0, none⟩) n cap) L) (hn : n = L.length) (k : Nat) (y : Bs) :
    Row (w.setCell ⟨g, k, none⟩ (.string (S y))) base (.slice (some ⟨g, 0, none⟩) n cap) (L.set k y) ∧ w.grownBy (w.setCell ⟨g, k, none⟩ (.string (S y))) (some g) := by
  subst hn
  have := World.ownsRow.stored h k (.string (S y))
  refine ⟨?_, this.2⟩
  unfold Row
  rw [List.length_set, List.map_set]
  exact this.1
theorem own_frozen {w : World} {base g n cap : Nat} {L : List Bs} (h : Row w base (.slice (some ⟨g, 0, none⟩) n cap) L) (hn : n = L.length) (j : Nat) : w.frozen? ⟨g, j, none⟩ = false := by
  subst hn
  exact World.ownsRow.frozenAt h j
set_option maxHeartbeats 4000000 in
set_option maxRecDepth 100000 in
theorem mixed_any (v : Value) (L : List Bs) (b : Nat) (z : Int) (w : World) (hrow : Row w b v L) (h0 : 0 < L.length) (hL : L.length ≤ 1000) (hz0 : 0 ≤ z) (hz1 : z < 4294967296) :
    Calls Tryz.prog 18 #[v, .int .u32 z] w fun e w' => ∃ v' L', e = .returned v' ∧ L'.Perm L ∧ Row w' w.heap.size v' L' ∧ Below w.heap.size w w' := by
  obtain ⟨g, cap, rfl, _, _⟩ := hrow.form h0
  obtain ⟨i0, hi, hzz, hz2, hz3⟩ := info_parts Tryz.info9
  have HR := Lib.hid hrow
  clear hrow
  go_enter Tryz.func18, Tryz.ntmps18
  go_wp2_with (at_builtin; go_loud (refine wpList_append_lies _ rfl _ _ 39 rfl w.heap.size 9 i0 (.string ⟨#[]⟩) 1 16 Tryz.underlying39 hi hzz hz2 hz3 rfl (by decide) _ 0 [] rfl (World.ownsRow_lit w #[] 0 (Nat.le_refl _) (by omega) rfl) ⟨g, 0, none⟩ L.length cap (L.map fun t => .string (S t)) rfl (by simp) ((HR.out.alloc _).cellsOf rfl) (by intro u hu; simp at hu; obtain ⟨t, _, rfl⟩ := hu; rfl) h0 (by unfold maxLen; omega) (by omega) (by simp) _ rfl ?_); intro g2 cap2 w1 hown1 hgrow1 _ _)
  have R1 : Row w1 w.heap.size (.slice (some ⟨g2, 0, none⟩) L.length cap2) L := by
    unfold Row
    simpa using hown1
  have B1 : Below w.heap.size w w1 := ((Below.refl _ _).alloc (Nat.le_refl _) _).grown hgrow1 (by simp) (fun k hk => by
    have e : some w.heap.size = some k := hk
    injection e with e
    omega)
  clear hown1 hgrow1 HR
  have hLi : (L.length : Int) ≤ 1000 := by omega
  go_wp2_with fail
  go_loopw [1, 6] (fun s a wr => ∃ (zz : Int) (k : Int) (L' : List Bs), s = .int .u32 zz ∧ 0 ≤ zz ∧ zz < 4294967296 ∧ a = .int .i64 k ∧ 0 ≤ k ∧ k < L.length ∧ Hid (L'.Perm L) ∧ Row wr w.heap.size (.slice (some ⟨g2, 0, none⟩) L.length cap2) L' ∧ Below w.heap.size w wr) (fun _ a _ => (intOf a).toNat)
  case atStart => exact ⟨z, (L.length : Int) - 1, L, rfl, hz0, hz1, by go_num, by omega, by omega, List.Perm.refl _, R1, B1⟩
  case round =>
    obtain ⟨zz, k, L', rfl, hq0, hq1, rfl, hk0, hk1, hp, hr, hb⟩ := hrel
    clear R1 B1
    by_cases hlt : 0 < k
    · obtain ⟨kn, rfl⟩ : ∃ kn : Nat, k = kn := ⟨k.toNat, by omega⟩
      obtain ⟨j, hj⟩ : ∃ j : Nat, zz % ((kn : Int) + 1) = (j : Int) := ⟨(zz % ((kn : Int) + 1)).toNat, by have := Int.emod_nonneg zz (show (kn : Int) + 1 ≠ 0 by omega); omega⟩
      have hj1 : (j : Int) < (kn : Int) + 1 := by have := Int.emod_lt_of_pos zz (show 0 < (kn : Int) + 1 by omega); omega
      have hpl : L'.length = L.length := hp.out.length_eq
      have ck := hr.get hpl.symm kn (by omega)
      have cj := hr.get hpl.symm j (by omega)
      have HJ := Lib.hid hj
      clear hj
      obtain ⟨x, hx⟩ : ∃ x, x = L'[kn]'(by omega) := ⟨_, rfl⟩
      obtain ⟨y, hy⟩ : ∃ y, y = L'[j]'(by omega) := ⟨_, rfl⟩
      rw [← hx] at ck
      rw [← hy] at cj
      have HX := Lib.hid hx
      have HY := Lib.hid hy
      clear hx hy
      have HRR := Lib.hid hr
      have HBB := Lib.hid hb
      clear hr hb
      go_wp2_with fail
      rw [HJ.out]
      have hkL : (kn : Int) < (L.length : Int) := hk1
      have hjL : (j : Int) < (L.length : Int) := by omega
      have hj0 : (0 : Int) ≤ (j : Int) := by omega
      have f1 := own_frozen HRR.out hpl.symm kn
      obtain ⟨s1, s2⟩ := own_stored HRR.out hpl.symm kn y
      have f2 := own_frozen s1 (by rw [List.length_set]; exact hpl.symm) j
      have c2 : (wr.setCell ⟨g2, kn, none⟩ (.string (S y))).cell? ⟨g2, j, none⟩ = some (.string (S ((L'.set kn y)[j]'(by rw [List.length_set]; omega)))) := s1.get (by rw [List.length_set]; exact hpl.symm) j (by rw [List.length_set]; omega)
      obtain ⟨s3, s4⟩ := own_stored s1 (by rw [List.length_set]; exact hpl.symm) j x
      obtain ⟨yy, hyy⟩ : ∃ yy, yy = (L'.set kn y)[j]'(by rw [List.length_set]; omega) := ⟨_, rfl⟩
      rw [← hyy] at c2
      have S3 := Lib.hid s3
      have S24 := Lib.hid (And.intro s2 s4)
      clear s1 s2 s3 s4 hyy
      go_region
      have R2 : Row (((wr.setCell ⟨g2, kn, none⟩ (.string (S y))).setCell ⟨g2, j, none⟩ (.string (S x))).drew) w.heap.size (.slice (some ⟨g2, 0, none⟩) L.length cap2) ((L'.set kn y).set j x) := S3.out
      have B2 : Below w.heap.size w (((wr.setCell ⟨g2, kn, none⟩ (.string (S y))).setCell ⟨g2, j, none⟩ (.string (S x))).drew) := by
        have hgg : ∀ k, some g2 = some k → w.heap.size ≤ k := fun k hk => (World.ownsRow.lt HRR.out k hk).1
        have h1 := HBB.out.grown S24.out.1 HBB.out.size hgg
        exact (h1.grown S24.out.2 h1.size hgg).drew
      have P2 : Hid (((L'.set kn y).set j x).Perm L) := by
        show List.Perm _ _
        rw [HX.out, HY.out]
        exact (swap_perm L' kn j (by omega) (by omega)).trans hp.out
      clear S3 S24 c2 f1 f2 ck cj
      go_wp2_with fail
      go_roundw
      case rel => exact ⟨_, _, _, rfl, Int.emod_nonneg _ (by omega), Int.emod_lt_of_pos _ (by omega), rfl, by omega, by omega, P2, R2, B2⟩
      case measure => simp [intOf]; omega
    · have HRR := Lib.hid hr
      have HBB := Lib.hid hb
      clear hr hb
      go_wp2
      go_ret
      exact ⟨_, rfl, _, hp.out, HRR.out, HBB.out⟩
end Go.Proofs.YtelkphcbopbhoaaGreatDoor
